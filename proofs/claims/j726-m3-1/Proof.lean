import JvmDerived
import JvmDerived.Pilot.@@N@@Statement
import JvmDerived.Pilot.@@N@@Code
set_option linter.unusedVariables false
set_option linter.unusedSimpArgs false
namespace Jvm.Pilot.@@N@@
open Jvm Jvm.ClassFile Sem Op Lib Jvm.Free Jvm.Stand Jvm.LawKit Jvm.RoadKit Bundle Jvm.Pilot.@@N@@.Jvm.D
/-- Java's x >>> y -/
def ushr (x y : Int32) : Int32 := (x.toUInt32 >>> (y &&& 31).toUInt32).toInt32
def ushrL (x : Int64) (y : Int32) : Int64 := (x.toUInt64 >>> (y &&& 0x3f).toInt64.toUInt64).toInt64
/-- what lcmp pushes -/
abbrev cmpL (x y : Int64) : Int32 := lcmpW x y
section Own
variable {p : Program} {l : Launch} {e : Env} {R : Room} {s : State} {m : MethodId} {args : Array Value} {below : List Frame} {meth : Method} {c : Code} {T : State} {locs : List Loc} {cells slots : Nat} {Z : State} {a0 : Array Value} {h : Heap} {Q : Option Value → Heap → List Loc → Prop} {K N pc : Nat} {Ls : Array Slot} {code : ByteArray} {rest : List Value}
/-- the run from here ends: the method returns, Q says what and over which heap -/
def Ends (p : Program) (e : Env) (below : List Frame) (s : State) (Q : Option Value → Heap → List Loc → Prop) (K N : Nat) (T : State) : Prop :=
  ∃ s₂ o, Steps p.tables e below T s₂ ∧ s₂.status = .running ∧ Ended s₂ below o ∧ ∃ v L, o = .returned v ∧ Q v s₂.heap L ∧ FrameEnd s o s₂ L K N
theorem Ends.step {T T' : State} (st : ∀ t, Steps p.tables e below T' t → Steps p.tables e below T t) (h : Ends p e below s Q K N T') : Ends p e below s Q K N T := by
  obtain ⟨s2, o, h1, h2⟩ := h
  exact ⟨s2, o, st _ h1, h2⟩
def Cx (p : Program) (c : Code) (code : ByteArray) : Prop := p.tables.exec = Jvm.exec ∧ c.code = code
/-- a method's contract -/
def Con (l : Launch) (Z : State) (y : MethodName) (bytes : ByteArray) (maxL : Nat) (ret : Option FieldType) (rm : Room) (K N : Nat) (ws : List Jvm.Cond) (as' : Array Value) (h : Heap) (Q : Option Value → Heap → List Loc → Prop) : Prop :=
  MetFree l y (head1 (Jvm.Cond.code y bytes maxL ret :: ws) rm) (fun a U => a = as' ∧ Z.Warmed39 U.vm ∧ U.heap = h) (fun _ _ _ _ _ => True) (fun _ U o U' => ∃ v L, o = .returned v ∧ Q v U'.heap L ∧ FrameEnd U o U' L K N)
theorem Con.of {y : MethodName} {bytes : ByteArray} {maxL : Nat} {ret : Option FieldType} {rm : Room} {ws : List Jvm.Cond} {as' : Array Value} (hn : plainFor y = true)
    (body : ∀ (p : Program) (e : Env) (s : State) (m : MethodId) (below : List Frame) (meth : Method) (c : Code) (T : State), Cx p c bytes → Z.Warmed39 s.vm → c.maxLocals = maxL → s.vm.findClass y.cls = some m.cls → meth.sig.returnType = ret → meth.name = y.name → meth.locks = false →
      Stand p l e rm s m as' below meth c T [] 0 0 → T.heap = h → Ends p e below s Q K N (T.setTop (entryFrame m as' maxL))) : Con l Z y bytes maxL ret rm K N ws as' h Q := by
  refine MetFree.of_bodySF hn hisR ?_
  intro p e s m args below meth c s₁ Bd hml0 hP hK
  obtain ⟨rfl, hZ, hh⟩ := hP
  exact body p e s m below meth c s₁ ⟨Bd.exec, Bd.bytes⟩ hZ hml0 (findClass_of_methodNamed Bd.named) Bd.returns (name_of_methodNamed Bd.named Bd.method).1 Bd.notSynchronized (Stand.of_body Bd) (by rw [← hh, Bd.state]; rfl)
theorem o_iadd (C : Cx p c code) (X : Stand p l e R s m args below meth c T locs cells slots) {x y : Int32} (hd : decode code pc = .ok (.iadd, 1)) (q : Nat) (hq : pc + 1 = q) (k : Ends p e below s Q K N (T.setTop (mkF m q Ls (.int (x + y) :: rest)))) : Ends p e below s Q K N (T.setTop (mkF m pc Ls (.int y :: .int x :: rest))) := by
  subst hq
  exact .step (fun _ t => XS.iadd X.here C.1 rfl (hb C.2 hd) rfl t) k
theorem o_isub (C : Cx p c code) (X : Stand p l e R s m args below meth c T locs cells slots) {x y : Int32} (hd : decode code pc = .ok (.isub, 1)) (q : Nat) (hq : pc + 1 = q) (k : Ends p e below s Q K N (T.setTop (mkF m q Ls (.int (x - y) :: rest)))) : Ends p e below s Q K N (T.setTop (mkF m pc Ls (.int y :: .int x :: rest))) := by
  subst hq
  exact .step (fun _ t => XS.isub X.here C.1 rfl (hb C.2 hd) rfl t) k
theorem o_imul (C : Cx p c code) (X : Stand p l e R s m args below meth c T locs cells slots) {x y : Int32} (hd : decode code pc = .ok (.imul, 1)) (q : Nat) (hq : pc + 1 = q) (k : Ends p e below s Q K N (T.setTop (mkF m q Ls (.int (x * y) :: rest)))) : Ends p e below s Q K N (T.setTop (mkF m pc Ls (.int y :: .int x :: rest))) := by
  subst hq
  exact .step (fun _ t => XS.imul X.here C.1 rfl (hb C.2 hd) rfl t) k
theorem o_iand (C : Cx p c code) (X : Stand p l e R s m args below meth c T locs cells slots) {x y : Int32} (hd : decode code pc = .ok (.iand, 1)) (q : Nat) (hq : pc + 1 = q) (k : Ends p e below s Q K N (T.setTop (mkF m q Ls (.int (x &&& y) :: rest)))) : Ends p e below s Q K N (T.setTop (mkF m pc Ls (.int y :: .int x :: rest))) := by
  subst hq
  exact .step (fun _ t => XS.iand X.here C.1 rfl (hb C.2 hd) rfl t) k
theorem o_ior (C : Cx p c code) (X : Stand p l e R s m args below meth c T locs cells slots) {x y : Int32} (hd : decode code pc = .ok (.ior, 1)) (q : Nat) (hq : pc + 1 = q) (k : Ends p e below s Q K N (T.setTop (mkF m q Ls (.int (x ||| y) :: rest)))) : Ends p e below s Q K N (T.setTop (mkF m pc Ls (.int y :: .int x :: rest))) := by
  subst hq
  exact .step (fun _ t => XS.ior X.here C.1 rfl (hb C.2 hd) rfl t) k
theorem o_ixor (C : Cx p c code) (X : Stand p l e R s m args below meth c T locs cells slots) {x y : Int32} (hd : decode code pc = .ok (.ixor, 1)) (q : Nat) (hq : pc + 1 = q) (k : Ends p e below s Q K N (T.setTop (mkF m q Ls (.int (x ^^^ y) :: rest)))) : Ends p e below s Q K N (T.setTop (mkF m pc Ls (.int y :: .int x :: rest))) := by
  subst hq
  exact .step (fun _ t => XS.ixor X.here C.1 rfl (hb C.2 hd) rfl t) k
theorem o_ishl (C : Cx p c code) (X : Stand p l e R s m args below meth c T locs cells slots) {x y : Int32} (hd : decode code pc = .ok (.ishl, 1)) (q : Nat) (hq : pc + 1 = q) (k : Ends p e below s Q K N (T.setTop (mkF m q Ls (.int (x <<< (y &&& 31)) :: rest)))) : Ends p e below s Q K N (T.setTop (mkF m pc Ls (.int y :: .int x :: rest))) := by
  subst hq
  exact .step (fun _ t => XS.ishl X.here C.1 rfl (hb C.2 hd) rfl t) k
theorem o_ishr (C : Cx p c code) (X : Stand p l e R s m args below meth c T locs cells slots) {x y : Int32} (hd : decode code pc = .ok (.ishr, 1)) (q : Nat) (hq : pc + 1 = q) (k : Ends p e below s Q K N (T.setTop (mkF m q Ls (.int (x >>> (y &&& 31)) :: rest)))) : Ends p e below s Q K N (T.setTop (mkF m pc Ls (.int y :: .int x :: rest))) := by
  subst hq
  exact .step (fun _ t => XS.ishr X.here C.1 rfl (hb C.2 hd) rfl t) k
theorem o_iushr (C : Cx p c code) (X : Stand p l e R s m args below meth c T locs cells slots) {x y : Int32} (hd : decode code pc = .ok (.iushr, 1)) (q : Nat) (hq : pc + 1 = q) (k : Ends p e below s Q K N (T.setTop (mkF m q Ls (.int (ushr x y) :: rest)))) : Ends p e below s Q K N (T.setTop (mkF m pc Ls (.int y :: .int x :: rest))) := by
  subst hq
  exact .step (fun _ t => XS.iushr X.here C.1 rfl (hb C.2 hd) rfl t) k
theorem o_irem (C : Cx p c code) (X : Stand p l e R s m args below meth c T locs cells slots) {x y : Int32} (hd : decode code pc = .ok (.irem, 1)) (q : Nat) (hq : pc + 1 = q) (hy : y ≠ 0) (k : Ends p e below s Q K N (T.setTop (mkF m q Ls (.int (x % y) :: rest)))) : Ends p e below s Q K N (T.setTop (mkF m pc Ls (.int y :: .int x :: rest))) := by
  subst hq
  exact .step (fun _ t => iremM X C.1 rfl (hb C.2 hd) rfl hy t) k
theorem o_idiv (C : Cx p c code) (X : Stand p l e R s m args below meth c T locs cells slots) {x y : Int32} (hd : decode code pc = .ok (.idiv, 1)) (q : Nat) (hq : pc + 1 = q) (hy : y ≠ 0) (k : Ends p e below s Q K N (T.setTop (mkF m q Ls (.int (x / y) :: rest)))) : Ends p e below s Q K N (T.setTop (mkF m pc Ls (.int y :: .int x :: rest))) := by
  subst hq
  exact .step (fun _ t => XS.idiv X.here C.1 rfl (hb C.2 hd) rfl hy t) k
theorem o_ladd (C : Cx p c code) (X : Stand p l e R s m args below meth c T locs cells slots) {x y : Int64} (hd : decode code pc = .ok (.ladd, 1)) (q : Nat) (hq : pc + 1 = q) (k : Ends p e below s Q K N (T.setTop (mkF m q Ls (.long (x + y) :: rest)))) : Ends p e below s Q K N (T.setTop (mkF m pc Ls (.long y :: .long x :: rest))) := by
  subst hq
  exact .step (fun _ t => XS.ladd X.here C.1 rfl (hb C.2 hd) rfl t) k
theorem o_lsub (C : Cx p c code) (X : Stand p l e R s m args below meth c T locs cells slots) {x y : Int64} (hd : decode code pc = .ok (.lsub, 1)) (q : Nat) (hq : pc + 1 = q) (k : Ends p e below s Q K N (T.setTop (mkF m q Ls (.long (x - y) :: rest)))) : Ends p e below s Q K N (T.setTop (mkF m pc Ls (.long y :: .long x :: rest))) := by
  subst hq
  exact .step (fun _ t => XS.lsub X.here C.1 rfl (hb C.2 hd) rfl t) k
theorem o_land (C : Cx p c code) (X : Stand p l e R s m args below meth c T locs cells slots) {x y : Int64} (hd : decode code pc = .ok (.land, 1)) (q : Nat) (hq : pc + 1 = q) (k : Ends p e below s Q K N (T.setTop (mkF m q Ls (.long (x &&& y) :: rest)))) : Ends p e below s Q K N (T.setTop (mkF m pc Ls (.long y :: .long x :: rest))) := by
  subst hq
  exact .step (fun _ t => XS.land X.here C.1 rfl (hb C.2 hd) rfl t) k
theorem o_lor (C : Cx p c code) (X : Stand p l e R s m args below meth c T locs cells slots) {x y : Int64} (hd : decode code pc = .ok (.lor, 1)) (q : Nat) (hq : pc + 1 = q) (k : Ends p e below s Q K N (T.setTop (mkF m q Ls (.long (x ||| y) :: rest)))) : Ends p e below s Q K N (T.setTop (mkF m pc Ls (.long y :: .long x :: rest))) := by
  subst hq
  exact .step (fun _ t => XS.lor X.here C.1 rfl (hb C.2 hd) rfl t) k
theorem o_lxor (C : Cx p c code) (X : Stand p l e R s m args below meth c T locs cells slots) {x y : Int64} (hd : decode code pc = .ok (.lxor, 1)) (q : Nat) (hq : pc + 1 = q) (k : Ends p e below s Q K N (T.setTop (mkF m q Ls (.long (x ^^^ y) :: rest)))) : Ends p e below s Q K N (T.setTop (mkF m pc Ls (.long y :: .long x :: rest))) := by
  subst hq
  exact .step (fun _ t => XS.lxor X.here C.1 rfl (hb C.2 hd) rfl t) k
theorem o_lushr (C : Cx p c code) (X : Stand p l e R s m args below meth c T locs cells slots) {x : Int64} {y : Int32} (hd : decode code pc = .ok (.lushr, 1)) (q : Nat) (hq : pc + 1 = q) (k : Ends p e below s Q K N (T.setTop (mkF m q Ls (.long (ushrL x y) :: rest)))) : Ends p e below s Q K N (T.setTop (mkF m pc Ls (.int y :: .long x :: rest))) := by
  subst hq
  exact .step (fun _ t => XS.lushr X.here C.1 rfl (hb C.2 hd) rfl t) k
theorem o_lcmp (C : Cx p c code) (X : Stand p l e R s m args below meth c T locs cells slots) {x y : Int64} (hd : decode code pc = .ok (.lcmp, 1)) (q : Nat) (hq : pc + 1 = q) (k : Ends p e below s Q K N (T.setTop (mkF m q Ls (.int (cmpL x y) :: rest)))) : Ends p e below s Q K N (T.setTop (mkF m pc Ls (.long y :: .long x :: rest))) := by
  subst hq
  exact .step (fun _ t => XS.lcmp X.here C.1 rfl (hb C.2 hd) rfl t) k
theorem o_i2l (C : Cx p c code) (X : Stand p l e R s m args below meth c T locs cells slots) {x : Int32} (hd : decode code pc = .ok (.i2l, 1)) (q : Nat) (hq : pc + 1 = q) (k : Ends p e below s Q K N (T.setTop (mkF m q Ls (.long x.toInt64 :: rest)))) : Ends p e below s Q K N (T.setTop (mkF m pc Ls (.int x :: rest))) := by
  subst hq
  exact .step (fun _ t => XS.i2l X.here C.1 rfl (hb C.2 hd) rfl t) k
theorem o_l2i (C : Cx p c code) (X : Stand p l e R s m args below meth c T locs cells slots) {x : Int64} (hd : decode code pc = .ok (.l2i, 1)) (q : Nat) (hq : pc + 1 = q) (k : Ends p e below s Q K N (T.setTop (mkF m q Ls (.int x.toInt32 :: rest)))) : Ends p e below s Q K N (T.setTop (mkF m pc Ls (.long x :: rest))) := by
  subst hq
  exact .step (fun _ t => XS.l2i X.here C.1 rfl (hb C.2 hd) rfl t) k
theorem o_i2b (C : Cx p c code) (X : Stand p l e R s m args below meth c T locs cells slots) {x : Int32} (hd : decode code pc = .ok (.i2b, 1)) (q : Nat) (hq : pc + 1 = q) (k : Ends p e below s Q K N (T.setTop (mkF m q Ls (.int x.toInt8.toInt32 :: rest)))) : Ends p e below s Q K N (T.setTop (mkF m pc Ls (.int x :: rest))) := by
  subst hq
  exact .step (fun _ t => XS.i2b X.here C.1 rfl (hb C.2 hd) rfl t) k
theorem o_i2c (C : Cx p c code) (X : Stand p l e R s m args below meth c T locs cells slots) {x : Int32} (hd : decode code pc = .ok (.i2c, 1)) (q : Nat) (hq : pc + 1 = q) (k : Ends p e below s Q K N (T.setTop (mkF m q Ls (.int x.toUInt32.toUInt16.toUInt32.toInt32 :: rest)))) : Ends p e below s Q K N (T.setTop (mkF m pc Ls (.int x :: rest))) := by
  subst hq
  exact .step (fun _ t => XS.i2c X.here C.1 rfl (hb C.2 hd) rfl t) k
theorem o_iconst (C : Cx p c code) (X : Stand p l e R s m args below meth c T locs cells slots) {i : Int} (hd : decode code pc = .ok (.iconst i, 1)) (q : Nat) (hq : pc + 1 = q) (v : Int32) (hv : Int32.ofInt i = v) (k : Ends p e below s Q K N (T.setTop (mkF m q Ls (.int v :: rest)))) : Ends p e below s Q K N (T.setTop (mkF m pc Ls rest)) := by
  subst hq
  exact .step (fun _ t => XS.iconst X.here C.1 rfl (hb C.2 hd) (by rw [hv]; exact t)) k
theorem o_bipush (C : Cx p c code) (X : Stand p l e R s m args below meth c T locs cells slots) {i : Int} (hd : decode code pc = .ok (.bipush i, 2)) (q : Nat) (hq : pc + 2 = q) (v : Int32) (hv : (Int8.ofInt i).toInt32 = v) (k : Ends p e below s Q K N (T.setTop (mkF m q Ls (.int v :: rest)))) : Ends p e below s Q K N (T.setTop (mkF m pc Ls rest)) := by
  subst hq
  exact .step (fun _ t => XS.bipush X.here C.1 rfl (hb C.2 hd) (by rw [hv]; exact t)) k
theorem o_sipush (C : Cx p c code) (X : Stand p l e R s m args below meth c T locs cells slots) {i : Int} (hd : decode code pc = .ok (.sipush i, 3)) (q : Nat) (hq : pc + 3 = q) (v : Int32) (hv : (Int16.ofInt i).toInt32 = v) (k : Ends p e below s Q K N (T.setTop (mkF m q Ls (.int v :: rest)))) : Ends p e below s Q K N (T.setTop (mkF m pc Ls rest)) := by
  subst hq
  exact .step (fun _ t => XS.sipush X.here C.1 rfl (hb C.2 hd) (by rw [hv]; exact t)) k
theorem o_lconst (C : Cx p c code) (X : Stand p l e R s m args below meth c T locs cells slots) {i : Fin 2} (hd : decode code pc = .ok (.lconst i, 1)) (q : Nat) (hq : pc + 1 = q) (v : Int64) (hv : Int64.ofNat i = v) (k : Ends p e below s Q K N (T.setTop (mkF m q Ls (.long v :: rest)))) : Ends p e below s Q K N (T.setTop (mkF m pc Ls rest)) := by
  subst hq
  exact .step (fun _ t => XS.lconst X.here C.1 rfl (hb C.2 hd) (by rw [hv]; exact t)) k
theorem o_aconst_null (C : Cx p c code) (X : Stand p l e R s m args below meth c T locs cells slots) (hd : decode code pc = .ok (.aconst_null, 1)) (q : Nat) (hq : pc + 1 = q) (k : Ends p e below s Q K N (T.setTop (mkF m q Ls (.null :: rest)))) : Ends p e below s Q K N (T.setTop (mkF m pc Ls rest)) := by
  subst hq
  exact .step (fun _ t => XS.aconstNull X.here C.1 rfl (hb C.2 hd) t) k
theorem o_dup (C : Cx p c code) (X : Stand p l e R s m args below meth c T locs cells slots) {x : Value} (hd : decode code pc = .ok (.dup, 1)) (q : Nat) (hq : pc + 1 = q) (hc : x.category = 1) (k : Ends p e below s Q K N (T.setTop (mkF m q Ls (x :: x :: rest)))) : Ends p e below s Q K N (T.setTop (mkF m pc Ls (x :: rest))) := by
  subst hq
  exact .step (fun _ t => XS.dup X.here C.1 rfl (hb C.2 hd) rfl hc t) k
theorem o_dup_x1 (C : Cx p c code) (X : Stand p l e R s m args below meth c T locs cells slots) {x y : Value} (hd : decode code pc = .ok (.dup_x1, 1)) (q : Nat) (hq : pc + 1 = q) (hc : x.category = 1) (hc' : y.category = 1) (k : Ends p e below s Q K N (T.setTop (mkF m q Ls (x :: y :: x :: rest)))) : Ends p e below s Q K N (T.setTop (mkF m pc Ls (x :: y :: rest))) := by
  subst hq
  exact .step (fun _ t => XS.dupX1 X.here C.1 rfl (hb C.2 hd) rfl hc hc' t) k
theorem o_pop (C : Cx p c code) (X : Stand p l e R s m args below meth c T locs cells slots) {x : Value} (hd : decode code pc = .ok (.pop, 1)) (q : Nat) (hq : pc + 1 = q) (hc : x.category = 1) (k : Ends p e below s Q K N (T.setTop (mkF m q Ls rest))) : Ends p e below s Q K N (T.setTop (mkF m pc Ls (x :: rest))) := by
  subst hq
  exact .step (fun _ t => XS.pop X.here C.1 rfl (hb C.2 hd) rfl hc t) k
theorem o_iloadN (C : Cx p c code) (X : Stand p l e R s m args below meth c T locs cells slots) {i : Fin 4} {v : Int32} (hd : decode code pc = .ok (.iload_n i, 1)) (q : Nat) (hq : pc + 1 = q) (hl : Ls[i.val]? = some (.val (.int v))) (k : Ends p e below s Q K N (T.setTop (mkF m q Ls (.int v :: rest)))) : Ends p e below s Q K N (T.setTop (mkF m pc Ls rest)) := by
  subst hq
  exact .step (fun _ t => XS.iloadN X.here C.1 rfl (hb C.2 hd) hl t) k
theorem o_iload (C : Cx p c code) (X : Stand p l e R s m args below meth c T locs cells slots) {i : Nat} {v : Int32} (hd : decode code pc = .ok (.iload i, 2)) (q : Nat) (hq : pc + 2 = q) (hl : Ls[i]? = some (.val (.int v))) (k : Ends p e below s Q K N (T.setTop (mkF m q Ls (.int v :: rest)))) : Ends p e below s Q K N (T.setTop (mkF m pc Ls rest)) := by
  subst hq
  exact .step (fun _ t => XS.iload X.here C.1 rfl (hb C.2 hd) hl t) k
theorem o_lloadN (C : Cx p c code) (X : Stand p l e R s m args below meth c T locs cells slots) {i : Fin 4} {v : Int64} (hd : decode code pc = .ok (.lload_n i, 1)) (q : Nat) (hq : pc + 1 = q) (hl : Ls[i.val]? = some (.val (.long v))) (k : Ends p e below s Q K N (T.setTop (mkF m q Ls (.long v :: rest)))) : Ends p e below s Q K N (T.setTop (mkF m pc Ls rest)) := by
  subst hq
  exact .step (fun _ t => XS.lloadN X.here C.1 rfl (hb C.2 hd) hl t) k
theorem o_lload (C : Cx p c code) (X : Stand p l e R s m args below meth c T locs cells slots) {i : Nat} {v : Int64} (hd : decode code pc = .ok (.lload i, 2)) (q : Nat) (hq : pc + 2 = q) (hl : Ls[i]? = some (.val (.long v))) (k : Ends p e below s Q K N (T.setTop (mkF m q Ls (.long v :: rest)))) : Ends p e below s Q K N (T.setTop (mkF m pc Ls rest)) := by
  subst hq
  exact .step (fun _ t => XS.lload X.here C.1 rfl (hb C.2 hd) hl t) k
theorem o_aloadN (C : Cx p c code) (X : Stand p l e R s m args below meth c T locs cells slots) {i : Fin 4} {v : Value} (hd : decode code pc = .ok (.aload_n i, 1)) (q : Nat) (hq : pc + 1 = q) (hl : Ls[i.val]? = some (.val v)) (hv : v.isRef = true) (k : Ends p e below s Q K N (T.setTop (mkF m q Ls (v :: rest)))) : Ends p e below s Q K N (T.setTop (mkF m pc Ls rest)) := by
  subst hq
  exact .step (fun _ t => XS.aloadN X.here C.1 rfl (hb C.2 hd) hl hv t) k
theorem o_aload (C : Cx p c code) (X : Stand p l e R s m args below meth c T locs cells slots) {i : Nat} {v : Value} (hd : decode code pc = .ok (.aload i, 2)) (q : Nat) (hq : pc + 2 = q) (hl : Ls[i]? = some (.val v)) (hv : v.isRef = true) (k : Ends p e below s Q K N (T.setTop (mkF m q Ls (v :: rest)))) : Ends p e below s Q K N (T.setTop (mkF m pc Ls rest)) := by
  subst hq
  exact .step (fun _ t => XS.aload X.here C.1 rfl (hb C.2 hd) hl hv t) k
theorem o_istoreN (C : Cx p c code) (X : Stand p l e R s m args below meth c T locs cells slots) {i : Fin 4} {x : Int32} (hd : decode code pc = .ok (.istore_n i, 1)) (q : Nat) (hq : pc + 1 = q) (l' : Array Slot) (hl : storeLocals Ls i.val (.int x) = some l') (k : Ends p e below s Q K N (T.setTop (mkF m q l' rest))) : Ends p e below s Q K N (T.setTop (mkF m pc Ls (.int x :: rest))) := by
  subst hq
  exact .step (fun _ t => XS.istoreN X.here C.1 rfl (hb C.2 hd) rfl hl t) k
theorem o_istore (C : Cx p c code) (X : Stand p l e R s m args below meth c T locs cells slots) {i : Nat} {x : Int32} (hd : decode code pc = .ok (.istore i, 2)) (q : Nat) (hq : pc + 2 = q) (l' : Array Slot) (hl : storeLocals Ls i (.int x) = some l') (k : Ends p e below s Q K N (T.setTop (mkF m q l' rest))) : Ends p e below s Q K N (T.setTop (mkF m pc Ls (.int x :: rest))) := by
  subst hq
  exact .step (fun _ t => XS.istore X.here C.1 rfl (hb C.2 hd) rfl hl t) k
theorem o_lstoreN (C : Cx p c code) (X : Stand p l e R s m args below meth c T locs cells slots) {i : Fin 4} {x : Int64} (hd : decode code pc = .ok (.lstore_n i, 1)) (q : Nat) (hq : pc + 1 = q) (l' : Array Slot) (hl : storeLocals Ls i.val (.long x) = some l') (k : Ends p e below s Q K N (T.setTop (mkF m q l' rest))) : Ends p e below s Q K N (T.setTop (mkF m pc Ls (.long x :: rest))) := by
  subst hq
  exact .step (fun _ t => XS.lstoreN X.here C.1 rfl (hb C.2 hd) rfl hl t) k
theorem o_lstore (C : Cx p c code) (X : Stand p l e R s m args below meth c T locs cells slots) {i : Nat} {x : Int64} (hd : decode code pc = .ok (.lstore i, 2)) (q : Nat) (hq : pc + 2 = q) (l' : Array Slot) (hl : storeLocals Ls i (.long x) = some l') (k : Ends p e below s Q K N (T.setTop (mkF m q l' rest))) : Ends p e below s Q K N (T.setTop (mkF m pc Ls (.long x :: rest))) := by
  subst hq
  exact .step (fun _ t => XS.lstore X.here C.1 rfl (hb C.2 hd) rfl hl t) k
theorem o_astoreN (C : Cx p c code) (X : Stand p l e R s m args below meth c T locs cells slots) {i : Fin 4} {x : Value} (hd : decode code pc = .ok (.astore_n i, 1)) (q : Nat) (hq : pc + 1 = q) (hv : x.isRef = true) (l' : Array Slot) (hl : storeLocals Ls i.val x = some l') (k : Ends p e below s Q K N (T.setTop (mkF m q l' rest))) : Ends p e below s Q K N (T.setTop (mkF m pc Ls (x :: rest))) := by
  subst hq
  exact .step (fun _ t => XS.astoreN X.here C.1 rfl (hb C.2 hd) rfl hv hl t) k
theorem o_astore (C : Cx p c code) (X : Stand p l e R s m args below meth c T locs cells slots) {i : Nat} {x : Value} (hd : decode code pc = .ok (.astore i, 2)) (q : Nat) (hq : pc + 2 = q) (hv : x.isRef = true) (l' : Array Slot) (hl : storeLocals Ls i x = some l') (k : Ends p e below s Q K N (T.setTop (mkF m q l' rest))) : Ends p e below s Q K N (T.setTop (mkF m pc Ls (x :: rest))) := by
  subst hq
  exact .step (fun _ t => XS.astore X.here C.1 rfl (hb C.2 hd) rfl hv hl t) k
theorem o_iinc (C : Cx p c code) (X : Stand p l e R s m args below meth c T locs cells slots) {i : Nat} {cst : Int} {x : Int32} (v : Int32) (hd : decode code pc = .ok (.iinc i cst, 3)) (q : Nat) (hq : pc + 3 = q) (l' : Array Slot) (hl : Ls[i]? = some (.val (.int x))) (hv : x + Int32.ofInt cst = v) (hl' : storeLocals Ls i (.int v) = some l') (k : Ends p e below s Q K N (T.setTop (mkF m q l' rest))) : Ends p e below s Q K N (T.setTop (mkF m pc Ls rest)) := by
  subst hq hv
  exact .step (fun _ t => XS.iinc X.here C.1 rfl (hb C.2 hd) hl hl' t) k
theorem o_goto (C : Cx p c code) (X : Stand p l e R s m args below meth c T locs cells slots) {o : Int} (hd : decode code pc = .ok (.goto o, 3)) (q : Nat) (ho : 0 ≤ (pc : Int) + o) (hq : ((pc : Int) + o).toNat = q) (k : Ends p e below s Q K N (T.setTop (mkF m q Ls rest))) : Ends p e below s Q K N (T.setTop (mkF m pc Ls rest)) := by
  exact .step (fun _ t => XS.goto X.here C.1 rfl (pc0 := pc) rfl (hb C.2 hd) ho hq t) k
theorem o_ifY (C : Cx p c code) (X : Stand p l e R s m args below meth c T locs cells slots) {cd : ClassFile.Cond} {o : Int} {x : Int32} (hd : decode code pc = .ok (.ifCond cd o, 3)) (q : Nat) (ho : 0 ≤ (pc : Int) + o) (hq : ((pc : Int) + o).toNat = q) (hc : ifCond.holds cd x = true) (k : Ends p e below s Q K N (T.setTop (mkF m q Ls rest))) : Ends p e below s Q K N (T.setTop (mkF m pc Ls (.int x :: rest))) := by
  exact .step (fun _ t => XS.ifYes X.here C.1 rfl (pc0 := pc) rfl (hb C.2 hd) rfl hc ho hq t) k
theorem o_ifN (C : Cx p c code) (X : Stand p l e R s m args below meth c T locs cells slots) {cd : ClassFile.Cond} {o : Int} {x : Int32} (hd : decode code pc = .ok (.ifCond cd o, 3)) (q : Nat) (hq : pc + 3 = q) (hc : ifCond.holds cd x = false) (k : Ends p e below s Q K N (T.setTop (mkF m q Ls rest))) : Ends p e below s Q K N (T.setTop (mkF m pc Ls (.int x :: rest))) := by
  subst hq
  exact .step (fun _ t => XS.ifNo X.here C.1 rfl (hb C.2 hd) rfl hc t) k
theorem o_icmpY (C : Cx p c code) (X : Stand p l e R s m args below meth c T locs cells slots) {cd : ClassFile.Cond} {o : Int} {x y : Int32} (hd : decode code pc = .ok (.if_icmp cd o, 3)) (q : Nat) (ho : 0 ≤ (pc : Int) + o) (hq : ((pc : Int) + o).toNat = q) (hc : if_icmp.holds cd x y = true) (k : Ends p e below s Q K N (T.setTop (mkF m q Ls rest))) : Ends p e below s Q K N (T.setTop (mkF m pc Ls (.int y :: .int x :: rest))) := by
  exact .step (fun _ t => XS.icmpYes X.here C.1 rfl (pc0 := pc) rfl (hb C.2 hd) rfl hc ho hq t) k
theorem o_icmpN (C : Cx p c code) (X : Stand p l e R s m args below meth c T locs cells slots) {cd : ClassFile.Cond} {o : Int} {x y : Int32} (hd : decode code pc = .ok (.if_icmp cd o, 3)) (q : Nat) (hq : pc + 3 = q) (hc : if_icmp.holds cd x y = false) (k : Ends p e below s Q K N (T.setTop (mkF m q Ls rest))) : Ends p e below s Q K N (T.setTop (mkF m pc Ls (.int y :: .int x :: rest))) := by
  subst hq
  exact .step (fun _ t => XS.icmpNo X.here C.1 rfl (hb C.2 hd) rfl hc t) k
theorem o_tlt {x y : Int64} (h : x < y) : ifCond.holds .lt (cmpL x y) = true ∧ ifCond.holds .ge (cmpL x y) = false := by
  have := (lw_lt x y).mpr h
  simp only [if0]; exact ⟨(tlt this).1, (tlt this).2.1⟩
theorem o_flt {x y : Int64} (h : ¬ x < y) : ifCond.holds .lt (cmpL x y) = false ∧ ifCond.holds .ge (cmpL x y) = true := by
  have := fun q => h ((lw_lt x y).mp q)
  simp only [if0]; exact ⟨(flt this).1, (flt this).2.1⟩
theorem o_tgt {x y : Int64} (h : y < x) : ifCond.holds .gt (cmpL x y) = true ∧ ifCond.holds .le (cmpL x y) = false := by
  have := (lw_gt x y).mpr h
  simp only [if0]; exact ⟨(tlt this).2.2.1, (tlt this).2.2.2⟩
theorem o_fgt {x y : Int64} (h : ¬ y < x) : ifCond.holds .gt (cmpL x y) = false ∧ ifCond.holds .le (cmpL x y) = true := by
  have := fun q => h ((lw_gt x y).mp q)
  simp only [if0]; exact ⟨(flt this).2.2.1, (flt this).2.2.2⟩
theorem o_teq {x y : Int64} (h : x = y) : ifCond.holds .eq (cmpL x y) = true ∧ ifCond.holds .ne (cmpL x y) = false := by
  have := (lw_eq x y).mpr h
  simp only [if0]; exact ⟨(teq this).1, (teq this).2⟩
theorem o_feq {x y : Int64} (h : ¬ x = y) : ifCond.holds .eq (cmpL x y) = false ∧ ifCond.holds .ne (cmpL x y) = true := by
  have := fun q => h ((lw_eq x y).mp q)
  simp only [if0]; exact ⟨(feq this).1, (feq this).2⟩
theorem o_ldcI (C : Cx p c code) (X : Stand p l e R s m args below meth c T locs cells slots) (hZ : Z.Warmed39 s.vm) {own : String} {index : Nat} {v : Int32} (hown : s.vm.findClass own = some m.cls) (w : (Jvm.Cond.constant own index v).before a0 Z = true) (hd : decode code pc = .ok (.ldc index, 2)) (q : Nat) (hq : pc + 2 = q) (k : Ends p e below s Q K N (T.setTop (mkF m q Ls (.int v :: rest)))) : Ends p e below s Q K N (T.setTop (mkF m pc Ls rest)) := by
  subst hq
  exact .step (fun _ t => X.ldcI C.1 hown (mvT hZ w) (g := mkF m pc Ls rest) rfl (hb C.2 hd) t) k
theorem o_ldc2J (C : Cx p c code) (X : Stand p l e R s m args below meth c T locs cells slots) (hZ : Z.Warmed39 s.vm) {own : String} {index : Nat} {v : Int64} (hown : s.vm.findClass own = some m.cls) (w : (Jvm.Cond.constantLong own index v).before a0 Z = true) (hd : decode code pc = .ok (.ldc2_w index, 3)) (q : Nat) (hq : pc + 3 = q) (k : Ends p e below s Q K N (T.setTop (mkF m q Ls (.long v :: rest)))) : Ends p e below s Q K N (T.setTop (mkF m pc Ls rest)) := by
  subst hq
  exact .step (fun _ t => X.ldc2J C.1 hown (mvT hZ w) (g := mkF m pc Ls rest) rfl (hb C.2 hd) t) k
theorem o_retI (C : Cx p c code) (X : Stand p l e R s m args below meth c T locs cells slots) {z : Int32} (hret : meth.sig.returnType = some .int) (hlk : meth.locks = false) (hd : decode code pc = .ok (.ireturn, 1)) (hQ : Q (some (.int z)) T.heap locs) (hK : cells ≤ K) (hN : slots ≤ N) : Ends p e below s Q K N (T.setTop (mkF m pc Ls (.int z :: rest))) := by
  obtain ⟨fs, hr, hrun, hended, hW, hsame⟩ := X.leave (v := (some (.int z))) (fun h => by rw [hret] at h; cases h) hlk
  exact ⟨_, _, retOut X C.1 hret rfl (Or.inl ⟨rfl, Or.inl rfl, z, rfl⟩) (hb C.2 hd) hr, hrun, hended, _, _, rfl, hQ, ⟨_, rfl⟩, hW, hsame.mono hK hN⟩
theorem o_retN (C : Cx p c code) (X : Stand p l e R s m args below meth c T locs cells slots) {z : Int32} {t : FieldType} (hret : meth.sig.returnType = some t) (ht : t = .boolean ∨ t = .byte ∨ t = .char ∨ t = .short) (hlk : meth.locks = false) (hd : decode code pc = .ok (.ireturn, 1)) (hQ : Q (some (.int (nar t z))) T.heap locs) (hK : cells ≤ K) (hN : slots ≤ N) : Ends p e below s Q K N (T.setTop (mkF m pc Ls (.int z :: rest))) := by
  obtain ⟨fs, hr, hrun, hended, hW, hsame⟩ := X.leave (v := (some (.int (nar t z)))) (fun h => by rw [hret] at h; cases h) hlk
  exact ⟨_, _, retN X C.1 hret ht (hb C.2 hd) hr, hrun, hended, _, _, rfl, hQ, ⟨_, rfl⟩, hW, hsame.mono hK hN⟩
theorem o_retJ (C : Cx p c code) (X : Stand p l e R s m args below meth c T locs cells slots) {z : Int64} (hret : meth.sig.returnType = some .long) (hlk : meth.locks = false) (hd : decode code pc = .ok (.lreturn, 1)) (hQ : Q (some (.long z)) T.heap locs) (hK : cells ≤ K) (hN : slots ≤ N) : Ends p e below s Q K N (T.setTop (mkF m pc Ls (.long z :: rest))) := by
  obtain ⟨fs, hr, hrun, hended, hW, hsame⟩ := X.leave (v := (some (.long z))) (fun h => by rw [hret] at h; cases h) hlk
  exact ⟨_, _, retOut X C.1 hret rfl (Or.inr (Or.inl ⟨rfl, rfl, z, rfl⟩)) (hb C.2 hd) hr, hrun, hended, _, _, rfl, hQ, ⟨_, rfl⟩, hW, hsame.mono hK hN⟩
theorem o_retA (C : Cx p c code) (X : Stand p l e R s m args below meth c T locs cells slots) {z : Addr} {t : FieldType} (hret : meth.sig.returnType = some t) (ht : t.isReference = true) (hlk : meth.locks = false) (hd : decode code pc = .ok (.areturn, 1)) (hQ : Q (some (.ref z)) T.heap locs) (hK : cells ≤ K) (hN : slots ≤ N) : Ends p e below s Q K N (T.setTop (mkF m pc Ls (.ref z :: []))) := by
  obtain ⟨fs, hr, hrun, hended, hW, hsame⟩ := X.leave (v := (some (.ref z))) (fun h => by rw [hret] at h; cases h) hlk
  exact ⟨_, _, X.areturnOut C.1 rfl hret ht (hb C.2 hd) hr, hrun, hended, _, _, rfl, hQ, ⟨_, rfl⟩, hW, hsame.mono hK hN⟩
theorem o_ret (C : Cx p c code) (X : Stand p l e R s m args below meth c T locs cells slots) (hret : meth.sig.returnType = none) (hlk : meth.locks = false) (hd : decode code pc = .ok (.return_, 1)) (hQ : Q none T.heap locs) (hK : cells ≤ K) (hN : slots ≤ N) : Ends p e below s Q K N (T.setTop (mkF m pc Ls [])) := by
  obtain ⟨fs, hr, hrun, hended, hW, hsame⟩ := X.leave (v := none) (fun _ => rfl) hlk
  exact ⟨_, _, X.returnOut C.1 hret (hb C.2 hd) hr, hrun, hended, _, _, rfl, hQ, ⟨_, rfl⟩, hW, hsame.mono hK hN⟩
theorem o_callS (C : Cx p c code) (X : Stand p l e R s m args below meth c T locs cells slots) (hZ : Z.Warmed39 s.vm) (hml : c.maxLocals = Ls.size) {own : String} {index : Nat} {y : MethodName} {bytes : ByteArray} {maxL : Nat} {ret : Option FieldType} {rm : Room} {Qc : Option Value → Heap → List Loc → Prop} (hown : s.vm.findClass own = some m.cls)
    (w1 : (Jvm.Cond.methodLink own index y).before a0 Z = true) (w2 : (Jvm.Cond.static y).before a0 Z = true) (w3 : (Jvm.Cond.initialized y.cls).before a0 Z = true) (w4 : (Jvm.Cond.code y bytes maxL ret).before a0 Z = true) (hy : y.cls ≠ "java/lang/invoke/MethodHandle" ∧ y.cls ≠ "java/lang/invoke/VarHandle")
    {asL st : List Value} (hM : Con l Z y bytes maxL ret rm rm.cells rm.slots [] asL.toArray h Qc) (eT : T.heap = h) {ps : List FieldType} {rt : Option FieldType} (pd : parseMethodDescriptor y.desc = some ⟨ps, rt⟩) (hlen : asL.length = ps.length) (hst : st = asL.reverse ++ rest) (W : Nat) (hW : (rest.map fun v => v.category).sum ≤ W) (hf : rm.frames + 1 ≤ R.frames) (hl : W + (maxL + 11) + rm.locals ≤ R.locals) (hcl : cells + rm.cells ≤ R.cells) (hsl : slots + rm.slots ≤ R.slots)
    (hd : decode code pc = .ok (.invokestatic index, 3)) (q : Nat) (hq : pc + 3 = q) (k : ∀ (T' : State) (h' : Heap) (v : Option Value) (L : List Loc), Stand p l e R s m args below meth c T' (locs ++ L) (cells + rm.cells) (slots + rm.slots) → T'.heap = h' → Qc v h' L → Ends p e below s Q K N (T'.setTop (mkF m q Ls (v.toList ++ rest)))) : Ends p e below s Q K N (T.setTop (mkF m pc Ls st)) := by
  subst hq hst
  obtain ⟨v, _, ⟨T', L', k', n'⟩, -, X', ⟨Lc, hQ, rfl, rfl, rfl⟩, st⟩ := Jvm.LawKit.callS X C.1 (y := y) hown (mvT hZ w1) (mvT hZ w2) (mvT hZ w3) (mvT hZ w4) hy (backOf (W := W) hM hZ w4 w3 hf hl) (g := mkF m pc Ls (asL.reverse ++ rest)) rfl hml.symm (argsL := asL) (rest := rest) (lenOf pd hlen) rfl (by show 2 * 0 + _ ≤ _; omega) (hb C.2 hd) (fun _ _ => ⟨rfl, eT, hcl, hsl⟩)
  exact .step st (k T' _ v Lc X' rfl hQ)
theorem o_callI (C : Cx p c code) (X : Stand p l e R s m args below meth c T locs cells slots) (hZ : Z.Warmed39 s.vm) (hml : c.maxLocals = Ls.size) {own : String} {index : Nat} {y : MethodName} {bytes : ByteArray} {maxL : Nat} {rm : Room} {Qc : Option Value → Heap → List Loc → Prop} (hown : s.vm.findClass own = some m.cls) (hy1 : y.name = "<init>")
    (w1 : (Jvm.Cond.methodLink own index y).before a0 Z = true) (w2 : (Jvm.Cond.instanceMethod y).before a0 Z = true) (w3 : (Jvm.Cond.initialized y.cls).before a0 Z = true) (w4 : (Jvm.Cond.code y bytes maxL none).before a0 Z = true) (hy : y.cls ≠ "java/lang/invoke/MethodHandle" ∧ y.cls ≠ "java/lang/invoke/VarHandle")
    {asL st : List Value} {a : Addr} (hM : Con l Z y bytes maxL none rm rm.cells rm.slots [] (.ref a :: asL).toArray h Qc) (eT : T.heap = h) {ps : List FieldType} {rt : Option FieldType} (pd : parseMethodDescriptor y.desc = some ⟨ps, rt⟩) (hlen : asL.length = ps.length) (hst : st = asL.reverse ++ .ref a :: rest) (W : Nat) (hW : (rest.map fun v => v.category).sum ≤ W) (hf : rm.frames + 1 ≤ R.frames) (hl : W + (maxL + 11) + rm.locals ≤ R.locals) (hcl : cells + rm.cells ≤ R.cells) (hsl : slots + rm.slots ≤ R.slots)
    (hd : decode code pc = .ok (.invokespecial index, 3)) (q : Nat) (hq : pc + 3 = q) (k : ∀ (T' : State) (h' : Heap) (v : Option Value) (L : List Loc), Stand p l e R s m args below meth c T' (locs ++ L) (cells + rm.cells) (slots + rm.slots) → T'.heap = h' → Qc v h' L → Ends p e below s Q K N (T'.setTop (mkF m q Ls (v.toList ++ rest)))) : Ends p e below s Q K N (T.setTop (mkF m pc Ls st)) := by
  subst hq hst
  obtain ⟨v, _, ⟨T', L', k', n'⟩, -, X', ⟨Lc, hQ, rfl, rfl, rfl⟩, st⟩ := X.specialBack C.1 (y := y) hy1 hown (mvT hZ w1) (mvT hZ w2) (mvT hZ w4) hy (backOf (W := W) hM hZ w4 w3 hf hl) (g := mkF m pc Ls (asL.reverse ++ .ref a :: rest)) rfl hml.symm (Steps.refl _) (a := a) (argsL := asL) (rest := rest) (lenOf pd hlen) rfl (by show 2 * 0 + _ ≤ _; omega) (hb C.2 hd) (fun _ _ => ⟨rfl, eT, hcl, hsl⟩)
  exact .step (fun _ t => st.trans t) (k T' _ v Lc X' rfl hQ)
theorem o_callV (C : Cx p c code) (X : Stand p l e R s m args below meth c T locs cells slots) (hZ : Z.Warmed39 s.vm) (hml : c.maxLocals = Ls.size) {own : String} {index : Nat} {y : MethodName} {bytes : ByteArray} {maxL : Nat} {ret : Option FieldType} {rm : Room} {Qc : Option Value → Heap → List Loc → Prop} (hown : s.vm.findClass own = some m.cls)
    (w1 : (Jvm.Cond.methodLink own index y).before a0 Z = true) (w2 : (Jvm.Cond.declares y).before a0 Z = true) (w5 : (Jvm.Cond.selects y.cls y y).before a0 Z = true) (w6 : (Jvm.Cond.instanceMethod y).before a0 Z = true) (w3 : (Jvm.Cond.initialized y.cls).before a0 Z = true) (w4 : (Jvm.Cond.code y bytes maxL ret).before a0 Z = true) (hy : y.cls ≠ "java/lang/invoke/MethodHandle" ∧ y.cls ≠ "java/lang/invoke/VarHandle")
    {asL st : List Value} {a : Addr} (hM : Con l Z y bytes maxL ret rm rm.cells rm.slots [] (.ref a :: asL).toArray h Qc) (eT : T.heap = h) (E : Exa Z h a y.cls) {ps : List FieldType} {rt : Option FieldType} (pd : parseMethodDescriptor y.desc = some ⟨ps, rt⟩) (hlen : asL.length = ps.length) (hst : st = asL.reverse ++ .ref a :: rest) (W : Nat) (hW : (rest.map fun v => v.category).sum ≤ W) (hf : rm.frames + 1 ≤ R.frames) (hl : W + (maxL + 11) + rm.locals ≤ R.locals) (hcl : cells + rm.cells ≤ R.cells) (hsl : slots + rm.slots ≤ R.slots)
    (hd : decode code pc = .ok (.invokevirtual index, 3)) (q : Nat) (hq : pc + 3 = q) (k : ∀ (T' : State) (h' : Heap) (v : Option Value) (L : List Loc), Stand p l e R s m args below meth c T' (locs ++ L) (cells + rm.cells) (slots + rm.slots) → T'.heap = h' → Qc v h' L → Ends p e below s Q K N (T'.setTop (mkF m q Ls (v.toList ++ rest)))) : Ends p e below s Q K N (T.setTop (mkF m pc Ls st)) := by
  subst hq hst
  obtain ⟨cq, kq, qa, qb, qc⟩ := isOf hZ eT E
  obtain ⟨v, _, ⟨T', L', k', n'⟩, -, X', ⟨Lc, hQ, rfl, rfl, rfl⟩, st⟩ := X.virtualBack C.1 (y := y) (z := y) hown (mvT hZ w1) (mvT hZ w2) (notFace_of_selects (args := #[]) (mvT hZ w5)) (mvT hZ w5) (mvT hZ w6) hy (backOf (W := W) hM hZ w4 w3 hf hl) qa qc (g := mkF m pc Ls (asL.reverse ++ .ref a :: rest)) rfl hml.symm (Steps.refl _) (argsL := asL) (rest := rest) (lenOf pd hlen) rfl (by show 2 * 0 + _ ≤ _; omega) (hb C.2 hd) (fun _ _ => ⟨rfl, eT, hcl, hsl⟩)
  exact .step (fun _ t => st.trans t) (k T' _ v Lc X' rfl hQ)
theorem Ends.via {T0 : State} (F : JFrame) (k1 : Ends p e below s Q K N (T.setTop F) → Ends p e below s Q K N T0) (k2 : Ends p e below s Q K N (T.setTop F)) : Ends p e below s Q K N T0 := k1 k2
/-- what a callee that writes and makes nothing says: its value, the heap as it was -/
def PQ (v0 : Value) (h : Heap) : Option Value → Heap → List Loc → Prop := fun v h' L => v = some v0 ∧ L = [] ∧ h' = h
theorem o_callP (C : Cx p c code) (X : Stand p l e R s m args below meth c T locs cells slots) (hZ : Z.Warmed39 s.vm) (hml : c.maxLocals = Ls.size) {own : String} {index : Nat} {y : MethodName} {bytes : ByteArray} {maxL : Nat} {ret : Option FieldType} {rf rl : Nat} {v0 : Value} (hown : s.vm.findClass own = some m.cls)
    (w1 : (Jvm.Cond.methodLink own index y).before a0 Z = true) (w2 : (Jvm.Cond.static y).before a0 Z = true) (w3 : (Jvm.Cond.initialized y.cls).before a0 Z = true) (w4 : (Jvm.Cond.code y bytes maxL ret).before a0 Z = true) (hy : y.cls ≠ "java/lang/invoke/MethodHandle" ∧ y.cls ≠ "java/lang/invoke/VarHandle")
    {asL st : List Value} (hM : Con l Z y bytes maxL ret { frames := rf, cells := 0, slots := 0, locals := rl } 0 0 [] asL.toArray h (PQ v0 h)) (eT : T.heap = h) {ps : List FieldType} {rt : Option FieldType} (pd : parseMethodDescriptor y.desc = some ⟨ps, rt⟩) (hlen : asL.length = ps.length) (hst : st = asL.reverse ++ rest) (W : Nat) (hW : (rest.map fun v => v.category).sum ≤ W) (hf : rf + 1 ≤ R.frames) (hl : W + (maxL + 11) + rl ≤ R.locals) (hcl : cells ≤ R.cells) (hsl : slots ≤ R.slots)
    (hd : decode code pc = .ok (.invokestatic index, 3)) (q : Nat) (hq : pc + 3 = q) (k : ∀ (T' : State), Stand p l e R s m args below meth c T' locs cells slots → T'.heap = h → Ends p e below s Q K N (T'.setTop (mkF m q Ls (v0 :: rest)))) : Ends p e below s Q K N (T.setTop (mkF m pc Ls st)) := by
  refine o_callS C X hZ hml hown w1 w2 w3 w4 hy (rm := { frames := rf, cells := 0, slots := 0, locals := rl }) hM eT pd hlen hst W hW hf hl hcl hsl hd q hq ?_
  intro T' h' v L X' e' hq
  obtain ⟨rfl, rfl, hh⟩ := hq
  rw [List.append_nil] at X'
  exact k T' X' (e'.trans hh)
theorem o_callVP (C : Cx p c code) (X : Stand p l e R s m args below meth c T locs cells slots) (hZ : Z.Warmed39 s.vm) (hml : c.maxLocals = Ls.size) {own : String} {index : Nat} {y : MethodName} {bytes : ByteArray} {maxL : Nat} {ret : Option FieldType} {rf rl : Nat} {v0 : Value} (hown : s.vm.findClass own = some m.cls)
    (w1 : (Jvm.Cond.methodLink own index y).before a0 Z = true) (w2 : (Jvm.Cond.declares y).before a0 Z = true) (w5 : (Jvm.Cond.selects y.cls y y).before a0 Z = true) (w6 : (Jvm.Cond.instanceMethod y).before a0 Z = true) (w3 : (Jvm.Cond.initialized y.cls).before a0 Z = true) (w4 : (Jvm.Cond.code y bytes maxL ret).before a0 Z = true) (hy : y.cls ≠ "java/lang/invoke/MethodHandle" ∧ y.cls ≠ "java/lang/invoke/VarHandle")
    {asL st : List Value} {a : Addr} (hM : Con l Z y bytes maxL ret { frames := rf, cells := 0, slots := 0, locals := rl } 0 0 [] (.ref a :: asL).toArray h (PQ v0 h)) (eT : T.heap = h) (E : Exa Z h a y.cls) {ps : List FieldType} {rt : Option FieldType} (pd : parseMethodDescriptor y.desc = some ⟨ps, rt⟩) (hlen : asL.length = ps.length) (hst : st = asL.reverse ++ .ref a :: rest) (W : Nat) (hW : (rest.map fun v => v.category).sum ≤ W) (hf : rf + 1 ≤ R.frames) (hl : W + (maxL + 11) + rl ≤ R.locals) (hcl : cells ≤ R.cells) (hsl : slots ≤ R.slots)
    (hd : decode code pc = .ok (.invokevirtual index, 3)) (q : Nat) (hq : pc + 3 = q) (k : ∀ (T' : State), Stand p l e R s m args below meth c T' locs cells slots → T'.heap = h → Ends p e below s Q K N (T'.setTop (mkF m q Ls (v0 :: rest)))) : Ends p e below s Q K N (T.setTop (mkF m pc Ls st)) := by
  refine o_callV C X hZ hml hown w1 w2 w5 w6 w3 w4 hy (rm := { frames := rf, cells := 0, slots := 0, locals := rl }) hM eT E pd hlen hst W hW hf hl hcl hsl hd q hq ?_
  intro T' h' v L X' e' hq
  obtain ⟨rfl, rfl, hh⟩ := hq
  rw [List.append_nil] at X'
  exact k T' X' (e'.trans hh)
theorem o_new (C : Cx p c code) (X : Stand p l e R s m args below meth c T locs cells slots) (hZ : Z.Warmed39 s.vm) {own Cn : String} {index n : Nat} (hown : s.vm.findClass own = some m.cls) (w : (Jvm.Cond.classLink own index Cn).before a0 Z = true) (wi : (Jvm.Cond.instantiable Cn n).before a0 Z = true) (wz : (Jvm.Cond.initialized Cn).before a0 Z = true) (eT : T.heap = h) (hd : decode code pc = .ok (.new index, 3)) (hc : cells + 1 ≤ R.cells) (hl : slots + n ≤ R.slots) (q : Nat) (hq : pc + 3 = q)
    (k : ∀ (T' : State) (h' : Heap) (a : Addr), a = h.size → Stand p l e R s m args below meth c T' locs (cells + 1) (slots + n) → T'.heap = h' → Ext h h' → Exa Z h' a Cn → (∀ {O nm d : String} {ty : FieldType}, Laid Z a0 Cn O nm d → parseFieldDescriptor d = some ty → Fld Z h' a O nm d (defaultValue ty)) → Ends p e below s Q K N (T'.setTop (mkF m q Ls (.ref a :: rest)))) : Ends p e below s Q K N (T.setTop (mkF m pc Ls rest)) := by
  subst hq
  obtain ⟨T', h', X', e', E, A, D, -, st⟩ := newO X C.1 hZ hown w wi wz eT (g := mkF m pc Ls rest) rfl (hb C.2 hd) hc hl
  exact .step st (k T' h' _ rfl X' e' E A D)
theorem o_getF (C : Cx p c code) (X : Stand p l e R s m args below meth c T locs cells slots) (hZ : Z.Warmed39 s.vm) {own R0 O n d : String} {index : Nat} (hown : s.vm.findClass own = some m.cls) (w : (Jvm.Cond.fieldLink own index R0 n d).before a0 Z = true) (via : Via Z R0 O n d) (eT : T.heap = h) {a : Addr} {v : Value} (F : Fld Z h a O n d v) (hd : decode code pc = .ok (.getfield index, 3)) (q : Nat) (hq : pc + 3 = q)
    (k : ∀ (T' : State), Stand p l e R s m args below meth c T' locs cells slots → T'.heap = h → Ends p e below s Q K N (T'.setTop (mkF m q Ls (v :: rest)))) : Ends p e below s Q K N (T.setTop (mkF m pc Ls (.ref a :: rest))) := by
  subst hq
  obtain ⟨T', X', e', st⟩ := getF X C.1 hZ hown (host := "") (Or.inl w) via eT F (g := mkF m pc Ls (.ref a :: rest)) rfl rfl (hb C.2 hd)
  exact .step st (k T' X' e')
theorem o_putF (C : Cx p c code) (X : Stand p l e R s m args below meth c T locs cells slots) (hZ : Z.Warmed39 s.vm) {own R0 O n d Cn : String} {index kk : Nat} {ty : FieldType} (hown : s.vm.findClass own = some m.cls) (w : (Jvm.Cond.fieldLink own index R0 n d).before a0 Z = true) (via : Via Z R0 O n d) (eT : T.heap = h) {a : Addr} {v old : Value} (F : Fld Z h a O n d old) (E : Exa Z h a Cn) (L : (Jvm.Cond.lays Cn O n d).before a0 Z = true ∨ ((Jvm.Cond.laysFinal Cn O n d).before a0 Z = true ∧ own = O ∧ meth.name = "<init>")) (wi : (Jvm.Cond.instantiable Cn kk).before a0 Z = true) (hty : parseFieldDescriptor d = some ty) (hn : narrow ty v = v) (hf : fits ty v = true) (hd : decode code pc = .ok (.putfield index, 3)) (q : Nat) (hq : pc + 3 = q) {n0 : Nat} (N0 : Fr n0 locs) (ha : n0 ≤ a)
    (k : ∀ (T' : State) (h' : Heap) (locs' : List Loc), Stand p l e R s m args below meth c T' locs' cells slots → T'.heap = h' → Wr h h' a (Jvm.RoadKit.slotOf Z O n d) v → Fr n0 locs' → Ends p e below s Q K N (T'.setTop (mkF m q Ls rest))) : Ends p e below s Q K N (T.setTop (mkF m pc Ls (v :: .ref a :: rest))) := by
  subst hq
  obtain ⟨T', h', X', e', W, st⟩ := putF X C.1 hZ hown (host := "") (Or.inl w) via eT F E L wi hty hn hf (g := mkF m pc Ls (v :: .ref a :: rest)) rfl rfl (hb C.2 hd)
  exact .step st (k T' h' _ X' e' W (Fr.snoc X' N0 ha))
theorem o_initO (C : Cx p c code) (X : Stand p l e R s m args below meth c T locs cells slots) (hZ : Z.Warmed39 s.vm) (hml : c.maxLocals = Ls.size) {own : String} {idx : Nat} (hown : s.vm.findClass own = some m.cls) (w1 : (Jvm.Cond.methodLink own idx Lib.objectInit).before a0 Z = true) (w2 : (Jvm.Cond.instanceMethod Lib.objectInit).before a0 Z = true) (w3 : (Jvm.Cond.code Lib.objectInit object_method_1_code 1 none).before a0 Z = true) (eT : T.heap = h) {a : Addr} (W : Nat) (hW : (rest.map fun v => v.category).sum ≤ W) (hf : 1 ≤ R.frames) (hl : W + 12 ≤ R.locals) (hd : decode code pc = .ok (.invokespecial idx, 3)) (q : Nat) (hq : pc + 3 = q)
    (k : ∀ (T' : State), Stand p l e R s m args below meth c T' locs cells slots → T'.heap = h → Ends p e below s Q K N (T'.setTop (mkF m q Ls rest))) : Ends p e below s Q K N (T.setTop (mkF m pc Ls (.ref a :: rest))) := by
  subst hq
  obtain ⟨T', X', e', st⟩ := initO X C.1 hZ hown w1 w2 w3 eT (g := mkF m pc Ls (.ref a :: rest)) rfl hml.symm rfl (hb C.2 hd) hf (W := W) (by show 2 * 0 + _ ≤ _; omega) hl
  exact .step st (k T' X' e')
/-- the array at a has n places; the place j holds the int f j -/
def AI (Z : State) (h : Heap) (a : Addr) (ty : FieldType) (n : Nat) (f : Nat → Int32) : Prop := ∃ cl : Cell, Arr Z h a cl ty ∧ cl.slots.size = n ∧ n < 2 ^ 31 ∧ ∀ j, j < n → cl.slots[j]? = some (.int (f j))
theorem AI.lt {a : Addr} {ty : FieldType} {n : Nat} {f : Nat → Int32} (A : AI Z h a ty n f) : a < h.size := by
  obtain ⟨cl, A, -⟩ := A; exact A.lt
theorem AI.ext {h' : Heap} {a : Addr} {ty : FieldType} {n : Nat} {f : Nat → Int32} (A : AI Z h a ty n f) (E : Ext h h') : AI Z h' a ty n f := by
  obtain ⟨cl, A, B⟩ := A; exact ⟨cl, A.ext E, B⟩
theorem AI.other {h' : Heap} {a b : Addr} {ty : FieldType} {n sl : Nat} {v : Value} {f : Nat → Int32} (A : AI Z h b ty n f) (W : Wr h h' a sl v) (q : b ≠ a) : AI Z h' b ty n f := by
  obtain ⟨cl, A, B⟩ := A; exact ⟨cl, A.other W q, B⟩
theorem AI.keep {h' : Heap} {a : Addr} {ty : FieldType} {n : Nat} {f : Nat → Int32} {ws : List Addr} (A : AI Z h a ty n f) (k : Keep h h' ws) (q : a ∉ ws) : AI Z h' a ty n f := by
  obtain ⟨cl, ⟨A1, A2⟩, B⟩ := A; exact ⟨cl, ⟨k.2.1 _ _ A1 q, A2⟩, B⟩
theorem AI.wr {h' : Heap} {a : Addr} {ty : FieldType} {n i : Nat} {v : Int32} {f : Nat → Int32} (A : AI Z h a ty n f) (W : Wr h h' a i (.int v)) (hi : i < n) : AI Z h' a ty n (fun j => if j = i then v else f j) := by
  obtain ⟨cl, A, S, M, B⟩ := A
  refine ⟨_, A.same W, by rw [sz_set]; exact S, M, fun j hj => ?_⟩
  show (cl.slots.setIfInBounds i (.int v))[j]? = _
  rw [Array.getElem?_setIfInBounds]
  by_cases q : i = j
  · subst q; rw [if_pos rfl, if_pos (by rw [S]; exact hi)]; dsimp only; rw [if_pos rfl]
  · rw [if_neg q, B j hj]; dsimp only; rw [if_neg (fun r => q r.symm)]
theorem AI.congr {a : Addr} {ty : FieldType} {n : Nat} {f g : Nat → Int32} (A : AI Z h a ty n f) (q : ∀ j, j < n → f j = g j) : AI Z h a ty n g := by
  obtain ⟨cl, A, S, M, B⟩ := A
  exact ⟨cl, A, S, M, fun j hj => by rw [B j hj, q j hj]⟩
theorem AI.ne {a b : Addr} {ty : FieldType} {n : Nat} {f : Nat → Int32} (A : AI Z h a ty n f) (q : b = h.size) : a ≠ b := fun r => by
  have := A.lt; rw [r, q] at this; exact Nat.lt_irrefl _ this
theorem own_idx {m : Nat} {j : Int32} {i n : Nat} (hj : j.toInt = i) (hi : i < n) (S : m = n) : ¬ (j < 0 ∨ m ≤ j.toNatClampNeg) ∧ j.toNatClampNeg = i := by
  have e1 : j.toNatClampNeg = i := by rw [Int32.toNatClampNeg, hj]; rfl
  refine ⟨?_, e1⟩
  rw [e1, S, Int32.lt_iff_toInt_lt, hj, show (0 : Int32).toInt = 0 from rfl]
  omega
theorem o_iaload (C : Cx p c code) (X : Stand p l e R s m args below meth c T locs cells slots) (hZ : Z.Warmed39 s.vm) (eT : T.heap = h) {a : Addr} {n : Nat} {f : Nat → Int32} (A : AI Z h a .int n f) {j : Int32} (i : Nat) (hj : j.toInt = i) (hi : i < n) (hd : decode code pc = .ok (.iaload, 1)) (q : Nat) (hq : pc + 1 = q) (k : Ends p e below s Q K N (T.setTop (mkF m q Ls (.int (f i) :: rest)))) : Ends p e below s Q K N (T.setTop (mkF m pc Ls (.int j :: .ref a :: rest))) := by
  subst hq
  obtain ⟨cl, A, S, M, B⟩ := A
  obtain ⟨q1, q2⟩ := own_idx hj hi S
  exact .step (fun t kt => X.iaload C.1 (j := j) (v := .int (f i)) (by rw [eT]; exact A.1) (State.isArrayOf_alike hZ.alike A.2.1) A.2.2 q1 (by rw [q2]; exact B i hi) (g := mkF m pc Ls (.int j :: .ref a :: rest)) rfl rfl (hb C.2 hd) t kt) k
theorem o_baload (C : Cx p c code) (X : Stand p l e R s m args below meth c T locs cells slots) (hZ : Z.Warmed39 s.vm) (eT : T.heap = h) {a : Addr} {n : Nat} {f : Nat → Int32} (A : AI Z h a .byte n f) {j : Int32} (i : Nat) (hj : j.toInt = i) (hi : i < n) (hd : decode code pc = .ok (.baload, 1)) (q : Nat) (hq : pc + 1 = q) (k : Ends p e below s Q K N (T.setTop (mkF m q Ls (.int (f i) :: rest)))) : Ends p e below s Q K N (T.setTop (mkF m pc Ls (.int j :: .ref a :: rest))) := by
  subst hq
  obtain ⟨cl, A, S, M, B⟩ := A
  obtain ⟨q1, q2⟩ := own_idx hj hi S
  exact .step (fun t kt => X.baloadBytes C.1 (j := j) (v := .int (f i)) (by rw [eT]; exact A.1) (State.isArrayOf_alike hZ.alike A.2.1) A.2.2 q1 (by rw [q2]; exact B i hi) (g := mkF m pc Ls (.int j :: .ref a :: rest)) rfl rfl (hb C.2 hd) t kt) k
theorem o_arraylength (C : Cx p c code) (X : Stand p l e R s m args below meth c T locs cells slots) (hZ : Z.Warmed39 s.vm) (eT : T.heap = h) {a : Addr} {ty : FieldType} {n : Nat} {f : Nat → Int32} (A : AI Z h a ty n f) (v : Int32) (hv : n.toInt32 = v) (hd : decode code pc = .ok (.arraylength, 1)) (q : Nat) (hq : pc + 1 = q) (k : Ends p e below s Q K N (T.setTop (mkF m q Ls (.int v :: rest)))) : Ends p e below s Q K N (T.setTop (mkF m pc Ls (.ref a :: rest))) := by
  subst hq hv
  obtain ⟨cl, A, rfl, M, B⟩ := A
  exact .step (fun t kt => X.arraylength C.1 (by rw [eT]; exact A.1) (State.isArrayOf_alike hZ.alike A.2.1) (g := mkF m pc Ls (.ref a :: rest)) rfl (rest := rest) rfl (hb C.2 hd) t kt) k
theorem o_iastore (C : Cx p c code) (X : Stand p l e R s m args below meth c T locs cells slots) (hZ : Z.Warmed39 s.vm) (eT : T.heap = h) {a : Addr} {n : Nat} {f : Nat → Int32} (A : AI Z h a .int n f) {j x : Int32} (i : Nat) (hj : j.toInt = i) (hi : i < n) (hd : decode code pc = .ok (.iastore, 1)) (q : Nat) (hq : pc + 1 = q) {n0 : Nat} (N0 : Fr n0 locs) (ha : n0 ≤ a)
    (k : ∀ (T' : State) (h' : Heap) (locs' : List Loc), Stand p l e R s m args below meth c T' locs' cells slots → T'.heap = h' → Wr h h' a i (.int x) → Fr n0 locs' → AI Z h' a .int n (fun j => if j = i then x else f j) → Ends p e below s Q K N (T'.setTop (mkF m q Ls rest))) : Ends p e below s Q K N (T.setTop (mkF m pc Ls (.int x :: .int j :: .ref a :: rest))) := by
  subst hq
  obtain ⟨cl, A', S, M, B⟩ := A
  obtain ⟨q1, q2⟩ := own_idx hj hi S
  obtain ⟨T', h', X', e', W, st⟩ := stI X C.1 hZ eT A' (j := j) (x := x) q1 (g := mkF m pc Ls (.int x :: .int j :: .ref a :: rest)) rfl rfl (hb C.2 hd)
  rw [q2] at W
  exact .step st (k T' h' _ X' e' W (Fr.snoc X' N0 ha) (AI.wr ⟨cl, A', S, M, B⟩ W hi))
theorem o_bastore (C : Cx p c code) (X : Stand p l e R s m args below meth c T locs cells slots) (hZ : Z.Warmed39 s.vm) (eT : T.heap = h) {a : Addr} {n : Nat} {f : Nat → Int32} (A : AI Z h a .byte n f) {j x : Int32} (i : Nat) (hj : j.toInt = i) (hi : i < n) (hd : decode code pc = .ok (.bastore, 1)) (q : Nat) (hq : pc + 1 = q) {n0 : Nat} (N0 : Fr n0 locs) (ha : n0 ≤ a)
    (k : ∀ (T' : State) (h' : Heap) (locs' : List Loc), Stand p l e R s m args below meth c T' locs' cells slots → T'.heap = h' → Wr h h' a i (.int (nar .byte x)) → Fr n0 locs' → AI Z h' a .byte n (fun j => if j = i then (nar .byte x) else f j) → Ends p e below s Q K N (T'.setTop (mkF m q Ls rest))) : Ends p e below s Q K N (T.setTop (mkF m pc Ls (.int x :: .int j :: .ref a :: rest))) := by
  subst hq
  obtain ⟨cl, A', S, M, B⟩ := A
  obtain ⟨q1, q2⟩ := own_idx hj hi S
  obtain ⟨T', h', X', e', W, st⟩ := stB X C.1 hZ eT A' (j := j) (x := x) q1 (g := mkF m pc Ls (.int x :: .int j :: .ref a :: rest)) rfl rfl (hb C.2 hd)
  rw [q2] at W
  exact .step st (k T' h' _ X' e' W (Fr.snoc X' N0 ha) (AI.wr ⟨cl, A', S, M, B⟩ W hi))
theorem o_newarrayI (C : Cx p c code) (X : Stand p l e R s m args below meth c T locs cells slots) (hZ : Z.Warmed39 s.vm) (w : (Jvm.Cond.arrayClass .int).before a0 Z = true) (eT : T.heap = h) {z : Int32} (n : Nat) (hz : z.toInt = n) (cap : Nat) (hcap : n ≤ cap) (hb8 : cap * 8 ≤ 536870912) (hc : cells + 1 ≤ R.cells) (hl : slots + cap ≤ R.slots) (hd : decode code pc = .ok (.newarray .int, 2)) (q : Nat) (hq : pc + 2 = q)
    (k : ∀ (T' : State) (h' : Heap) (a : Addr), a = h.size → Stand p l e R s m args below meth c T' locs (cells + 1) (slots + cap) → T'.heap = h' → Ext h h' → AI Z h' a .int n (fun _ => 0) → Ends p e below s Q K N (T'.setTop (mkF m q Ls (.ref a :: rest)))) : Ends p e below s Q K N (T.setTop (mkF m pc Ls (.int z :: rest))) := by
  subst hq
  have hn : ¬ z < 0 := by rw [Int32.lt_iff_toInt_lt, hz, show (0 : Int32).toInt = 0 from rfl]; omega
  have e1 : z.toNatClampNeg = n := by rw [Int32.toNatClampNeg, hz]; rfl
  have hr := Int32.toInt_lt z
  obtain ⟨T', h', cA, X', e', E, A, st⟩ := newP X C.1 hZ (aty := .int) w eT (g := mkF m pc Ls (.int z :: rest)) rfl (hb C.2 hd) (n := z) (rest := rest) rfl hn (cap := cap) (by rw [e1]; exact hcap) hb8 hc hl
  refine .step st (k T' h' _ rfl X' e' E ⟨_, A, by rw [sz_new, e1], by omega, fun j hj => ?_⟩)
  simp only [newA, e1]
  rw [Array.getElem?_replicate, if_pos hj]; rfl
theorem o_newarrayB (C : Cx p c code) (X : Stand p l e R s m args below meth c T locs cells slots) (hZ : Z.Warmed39 s.vm) (w : (Jvm.Cond.arrayClass .byte).before a0 Z = true) (eT : T.heap = h) {z : Int32} (n : Nat) (hz : z.toInt = n) (cap : Nat) (hcap : n ≤ cap) (hb8 : cap * 8 ≤ 536870912) (hc : cells + 1 ≤ R.cells) (hl : slots + cap ≤ R.slots) (hd : decode code pc = .ok (.newarray .byte, 2)) (q : Nat) (hq : pc + 2 = q)
    (k : ∀ (T' : State) (h' : Heap) (a : Addr), a = h.size → Stand p l e R s m args below meth c T' locs (cells + 1) (slots + cap) → T'.heap = h' → Ext h h' → AI Z h' a .byte n (fun _ => 0) → Ends p e below s Q K N (T'.setTop (mkF m q Ls (.ref a :: rest)))) : Ends p e below s Q K N (T.setTop (mkF m pc Ls (.int z :: rest))) := by
  subst hq
  have hn : ¬ z < 0 := by rw [Int32.lt_iff_toInt_lt, hz, show (0 : Int32).toInt = 0 from rfl]; omega
  have e1 : z.toNatClampNeg = n := by rw [Int32.toNatClampNeg, hz]; rfl
  have hr := Int32.toInt_lt z
  obtain ⟨T', h', cA, X', e', E, A, st⟩ := newP X C.1 hZ (aty := .byte) w eT (g := mkF m pc Ls (.int z :: rest)) rfl (hb C.2 hd) (n := z) (rest := rest) rfl hn (cap := cap) (by rw [e1]; exact hcap) hb8 hc hl
  refine .step st (k T' h' _ rfl X' e' E ⟨_, A, by rw [sz_new, e1], by omega, fun j hj => ?_⟩)
  simp only [newA, e1]
  rw [Array.getElem?_replicate, if_pos hj]; rfl
end Own
section OwnCopy
variable {p : Program} {l : Launch} {e : Env} {R : Room} {s : State} {m : MethodId} {args : Array Value} {below : List Frame} {meth : Method} {c : Code} {T : State} {locs : List Loc} {cells slots : Nat} {Z : State} {a0 : Array Value} {h : Heap} {Q : Option Value → Heap → List Loc → Prop} {K N pc : Nat} {Ls : Array Slot} {code : ByteArray} {rest : List Value}
theorem AI.arv {a : Addr} {n : Nat} {f : Nat → Int32} (A : AI Z h a .int n f) : ∃ k, Arv Z h a k .int (Int32.ofNat n) ((List.range n).map fun j => .int (f j)) (.int 0) := by
  obtain ⟨cl, A, S, M, B⟩ := A
  have e1 : (Int32.ofNat n).toInt = (n : Int) := Int32.toInt_ofNat_of_lt (by omega)
  refine ⟨cl.cls, cl, A, rfl, by rw [S, Int32.toNatClampNeg, e1]; rfl, by rw [Int32.lt_iff_toInt_lt, e1, show (0 : Int32).toInt = 0 from rfl]; omega, fun k hk => ?_, fun i _ => ?_⟩
  · rw [B k (by omega), List.getD_eq_getElem?_getD, List.getElem?_map, List.getElem?_range (by omega)]; rfl
  · rw [List.getD_eq_getElem?_getD]
    by_cases q : i < n
    · rw [List.getElem?_map, List.getElem?_range q]; rfl
    · rw [List.getElem?_eq_none (by simp; omega)]; rfl
theorem AI.of_arv {a : Addr} {k : ClassId} {n : Nat} {f : Nat → Int32} {z : Int32} {vs : List Value} {d : Value} (A : Arv Z h a k .int z vs d) (hz : z.toInt = n) (q : ∀ j, j < n → vs.getD j d = .int (f j)) : AI Z h a .int n f := by
  obtain ⟨cl, A, -, S, M, H, -⟩ := A
  have e1 : z.toNatClampNeg = n := by rw [Int32.toNatClampNeg, hz]; rfl
  have hr := Int32.toInt_lt z
  exact ⟨cl, A, by rw [S, e1], by omega, fun j hj => by rw [H j (by rw [S, e1]; exact hj), q j hj]⟩
theorem o_arraycopy (C : Cx p c code) (X : Stand p l e R s m args below meth c T locs cells slots) (hZ : Z.Warmed39 s.vm) (hml : c.maxLocals = Ls.size) {own : String} {index : Nat} (hown : s.vm.findClass own = some m.cls)
    (w1 : (Jvm.Cond.methodLink own index Jvm.Stand.acN).before a0 Z = true) (w2 : (Jvm.Cond.native Jvm.Stand.acN).before a0 Z = true) (w3 : (Jvm.Cond.static Jvm.Stand.acN).before a0 Z = true) (w4 : (Jvm.Cond.initialized "java/lang/System").before a0 Z = true) (eT : T.heap = h)
    {a b : Addr} {na nb : Nat} {fa fb : Nat → Int32} (A : AI Z h a .int na fa) (B : AI Z h b .int nb fb) {z : Int32} (n : Nat) (hz : z.toInt = n) (h1 : n ≤ na) (h2 : n ≤ nb) {n0 : Nat} (N0 : Fr n0 locs) (ge : n0 ≤ b) (W : Nat) (hW : (rest.map fun v => v.category).sum ≤ W) (hf : 1 ≤ R.frames) (hlo : W + (nativeFrameWords "java/lang/System" "arraycopy" 5 + 11) ≤ R.locals)
    (hd : decode code pc = .ok (.invokestatic index, 3)) (q : Nat) (hq : pc + 3 = q)
    (k : ∀ (T' : State) (h' : Heap) (locs' : List Loc), Stand p l e R s m args below meth c T' locs' cells slots → T'.heap = h' → Fr n0 locs' → Keep h h' [b] → AI Z h' b .int nb (fun j => if j < n then fa j else fb j) → Ends p e below s Q K N (T'.setTop (mkF m q Ls rest))) : Ends p e below s Q K N (T.setTop (mkF m pc Ls (.int z :: .int 0 :: .ref b :: .int 0 :: .ref a :: rest))) := by
  subst hq
  obtain ⟨ka, A'⟩ := A.arv
  obtain ⟨kb, B'⟩ := B.arv
  have ra : na < 2 ^ 31 := by obtain ⟨_, _, _, q, _⟩ := A; exact q
  have rb : nb < 2 ^ 31 := by obtain ⟨_, _, _, q, _⟩ := B; exact q
  have e0 : (0 : Int32).toNatClampNeg = 0 := rfl
  have en : z.toNatClampNeg = n := by rw [Int32.toNatClampNeg, hz]; rfl
  have ea : (Int32.ofNat na).toNatClampNeg = na := by rw [Int32.toNatClampNeg, Int32.toInt_ofNat_of_lt (by omega)]; rfl
  have eb : (Int32.ofNat nb).toNatClampNeg = nb := by rw [Int32.toNatClampNeg, Int32.toInt_ofNat_of_lt (by omega)]; rfl
  have hn : ¬ z < 0 := by rw [Int32.lt_iff_toInt_lt, hz, show (0 : Int32).toInt = 0 from rfl]; omega
  obtain ⟨T', h', L, X', e', N', K', B2, st⟩ := cpA X C.1 hZ hown w1 w2 w3 w4 eT A' B' (Or.inl ⟨rfl, rfl⟩) (sp := 0) (dp := 0) (nn := z) (by decide) (by decide) hn (by rw [e0, en, ea]; omega) (by rw [e0, en, eb]; omega) rfl (by rw [e0, en]; simp; omega) N0 ge (g := mkF m pc Ls (.int z :: .int 0 :: .ref b :: .int 0 :: .ref a :: rest)) rfl hml.symm rfl (hb C.2 hd) hf (W := W) (by show 2 * 0 + _ ≤ _; omega) hlo
  refine .step st (k T' h' L X' e' N' K' (AI.of_arv B2 (n := nb) (Int32.toInt_ofNat_of_lt (by omega)) fun j hj => ?_))
  rw [e0, en]
  simp only [List.take_zero, List.nil_append, Nat.zero_add]
  rw [List.getD_eq_getElem?_getD]
  by_cases g : j < n
  · rw [if_pos g, List.getElem?_append_left (by simp; omega), List.getElem?_map, List.getElem?_range g]
    simp only [Option.map_some, Option.getD_some]
    rw [List.getD_eq_getElem?_getD, List.getElem?_map, List.getElem?_range (by omega)]; rfl
  · rw [if_neg g, List.getElem?_append_right (by simp; omega), List.getElem?_drop, List.length_map, List.length_range, show n + (j - n) = j by omega, List.getElem?_map, List.getElem?_range hj]; rfl
end OwnCopy
section OwnMore
variable {p : Program} {l : Launch} {e : Env} {R : Room} {s : State} {m : MethodId} {args : Array Value} {below : List Frame} {meth : Method} {c : Code} {T : State} {locs : List Loc} {cells slots : Nat} {Z : State} {a0 : Array Value} {h : Heap} {Q : Option Value → Heap → List Loc → Prop} {K N pc : Nat} {Ls : Array Slot} {code : ByteArray} {rest : List Value}
theorem o_newarrayIE (C : Cx p c code) (X : Stand p l e R s m args below meth c T locs cells slots) (hZ : Z.Warmed39 s.vm) (w : (Jvm.Cond.arrayClass .int).before a0 Z = true) (eT : T.heap = h) {z : Int32} (n : Nat) (hz : z.toInt = n) (cap : Nat) (hcap : n ≤ cap) (hb8 : cap * 8 ≤ 536870912) (hc : cells + 1 ≤ R.cells) (hl : slots + cap ≤ R.slots) (hd : decode code pc = .ok (.newarray .int, 2)) (q : Nat) (hq : pc + 2 = q)
    (k : ∀ (T' : State) (h' : Heap) (a : Addr), a = h.size → Stand p l e R s m args below meth c T' locs (cells + 1) (slots + cap) → T'.heap = h' → Ext h h' → AI Z h' a .int n (fun _ => 0) → Exa Z h' a "[I" → Ends p e below s Q K N (T'.setTop (mkF m q Ls (.ref a :: rest)))) : Ends p e below s Q K N (T.setTop (mkF m pc Ls (.int z :: rest))) := by
  subst hq
  have hn : ¬ z < 0 := by rw [Int32.lt_iff_toInt_lt, hz, show (0 : Int32).toInt = 0 from rfl]; omega
  have e1 : z.toNatClampNeg = n := by rw [Int32.toNatClampNeg, hz]; rfl
  have hr := Int32.toInt_lt z
  obtain ⟨T', h', cA, X', e', E, A, Ex, st⟩ := newPE X C.1 hZ (aty := .int) w eT (g := mkF m pc Ls (.int z :: rest)) rfl (hb C.2 hd) (n := z) (rest := rest) rfl hn (cap := cap) (by rw [e1]; exact hcap) hb8 hc hl (ad := "[I") (by decide)
  refine .step st (k T' h' _ rfl X' e' E ⟨_, A, by rw [sz_new, e1], by omega, fun j hj => ?_⟩ Ex)
  simp only [newA, e1]
  rw [Array.getElem?_replicate, if_pos hj]; rfl
theorem o_cloneI (C : Cx p c code) (X : Stand p l e R s m args below meth c T locs cells slots) (hZ : Z.Warmed39 s.vm) (hml : c.maxLocals = Ls.size) {own : String} {index : Nat} (hown : s.vm.findClass own = some m.cls)
    (w1 : (Jvm.Cond.methodLink own index ⟨"[I", "clone", "()Ljava/lang/Object;"⟩).before a0 Z = true) (w2 : (Jvm.Cond.sameMethod "[I" "java/lang/Object" "clone" "()Ljava/lang/Object;").before a0 Z = true) (w3 : (Jvm.Cond.native ⟨"java/lang/Object", "clone", "()Ljava/lang/Object;"⟩).before a0 Z = true)
    (w4 : (Jvm.Cond.instanceMethod ⟨"java/lang/Object", "clone", "()Ljava/lang/Object;"⟩).before a0 Z = true) (w5 : (Jvm.Cond.selects "[I" ⟨"[I", "clone", "()Ljava/lang/Object;"⟩ ⟨"java/lang/Object", "clone", "()Ljava/lang/Object;"⟩).before a0 Z = true) (w6 : (Jvm.Cond.castable "[I" "java/lang/Cloneable").before a0 Z = true)
    (eT : T.heap = h) {a : Addr} {n : Nat} {f : Nat → Int32} (A : AI Z h a .int n f) (Ex : Exa Z h a "[I") (W : Nat) (hW : (rest.map fun v => v.category).sum ≤ W) (hf : 1 ≤ R.frames) (hlo : W + 14 ≤ R.locals) (cap : Nat) (hcap : n ≤ cap) (hc : cells + 1 ≤ R.cells) (hsl : slots + cap ≤ R.slots) (hd : decode code pc = .ok (.invokevirtual index, 3)) (q : Nat) (hq : pc + 3 = q)
    (k : ∀ (T' : State) (h' : Heap) (b : Addr), b = h.size → Stand p l e R s m args below meth c T' locs (cells + 1) (slots + cap) → T'.heap = h' → Ext h h' → AI Z h' b .int n f → Exa Z h' b "[I" → Ends p e below s Q K N (T'.setTop (mkF m q Ls (.ref b :: rest)))) : Ends p e below s Q K N (T.setTop (mkF m pc Ls (.ref a :: rest))) := by
  subst hq
  obtain ⟨cl, A, S, M, B⟩ := A
  have F : FitC Z cl := fitC_of A fun i hi v hv => by
    rw [B i (by omega)] at hv; cases hv; rfl
  obtain ⟨T', h', X', e', E, A', Ex', st⟩ := cloneA X C.1 hZ hown w1 w2 w3 w4 w5 w6 eT A Ex F (g := mkF m pc Ls (.ref a :: rest)) rfl hml.symm rfl (hb C.2 hd) hf (W := W) (cap := cap) (by show 2 * 0 + _ ≤ _; omega) hlo (by omega) hc hsl
  exact .step st (k T' h' _ rfl X' e' E ⟨_, A', S, M, B⟩ Ex')
theorem o_cast (C : Cx p c code) (X : Stand p l e R s m args below meth c T locs cells slots) (hZ : Z.Warmed39 s.vm) {own Kn : String} {index : Nat} (hown : s.vm.findClass own = some m.cls) (w : (Jvm.Cond.classLink own index Kn).before a0 Z = true) (eT : T.heap = h) {a : Addr} (Ex : Exa Z h a Kn) (hd : decode code pc = .ok (.checkcast index, 3)) (q : Nat) (hq : pc + 3 = q)
    (k : ∀ (T' : State), Stand p l e R s m args below meth c T' locs cells slots → T'.heap = h → Ends p e below s Q K N (T'.setTop (mkF m q Ls (.ref a :: rest)))) : Ends p e below s Q K N (T.setTop (mkF m pc Ls (.ref a :: rest))) := by
  subst hq
  obtain ⟨T', X', e', st⟩ := castY X C.1 hZ hown w eT (Ins.self Ex) (g := mkF m pc Ls (.ref a :: rest)) rfl rfl (hb C.2 hd)
  exact .step st (k T' X' e')
theorem o_acmpSame (C : Cx p c code) (X : Stand p l e R s m args below meth c T locs cells slots) {o : Int} {a : Addr} (hd : decode code pc = .ok (.if_acmp .ne o, 3)) (ho : 0 ≤ (pc : Int) + o) (q : Nat) (hq : pc + 3 = q) (k : Ends p e below s Q K N (T.setTop (mkF m q Ls rest))) : Ends p e below s Q K N (T.setTop (mkF m pc Ls (.ref a :: .ref a :: rest))) := by
  subst hq
  exact .step (fun _ t => acmp X C.1 (x := .ref a) (y := .ref a) rfl rfl rfl (pc0 := pc) (same := true) rfl (hb C.2 hd) rfl (by simp) ho (by simp [acV]) t) k
theorem o_callN (C : Cx p c code) (X : Stand p l e R s m args below meth c T locs cells slots) (hZ : Z.Warmed39 s.vm) (hml : c.maxLocals = Ls.size) {own : String} {index : Nat} {y : MethodName} {bytes : ByteArray} {maxL : Nat} {rm : Room} {Qc : Option Value → Heap → List Loc → Prop} (hown : s.vm.findClass own = some m.cls) {host : String} (hy1 : y.name = "<init>")
    (w1 : (Jvm.Cond.methodLinkNest own index y host).before a0 Z = true) (w2 : (Jvm.Cond.instanceMethod y).before a0 Z = true) (w3 : (Jvm.Cond.initialized y.cls).before a0 Z = true) (w4 : (Jvm.Cond.code y bytes maxL none).before a0 Z = true) (hy : y.cls ≠ "java/lang/invoke/MethodHandle" ∧ y.cls ≠ "java/lang/invoke/VarHandle")
    {asL st : List Value} {a : Addr} (hM : Con l Z y bytes maxL none rm rm.cells rm.slots [] (.ref a :: asL).toArray h Qc) (eT : T.heap = h) {ps : List FieldType} {rt : Option FieldType} (pd : parseMethodDescriptor y.desc = some ⟨ps, rt⟩) (hlen : asL.length = ps.length) (hst : st = asL.reverse ++ .ref a :: rest) (W : Nat) (hW : (rest.map fun v => v.category).sum ≤ W) (hf : rm.frames + 1 ≤ R.frames) (hl : W + (maxL + 11) + rm.locals ≤ R.locals) (hcl : cells + rm.cells ≤ R.cells) (hsl : slots + rm.slots ≤ R.slots)
    (hd : decode code pc = .ok (.invokespecial index, 3)) (q : Nat) (hq : pc + 3 = q) (k : ∀ (T' : State) (h' : Heap) (v : Option Value) (L : List Loc), Stand p l e R s m args below meth c T' (locs ++ L) (cells + rm.cells) (slots + rm.slots) → T'.heap = h' → Qc v h' L → Ends p e below s Q K N (T'.setTop (mkF m q Ls (v.toList ++ rest)))) : Ends p e below s Q K N (T.setTop (mkF m pc Ls st)) := by
  subst hq hst
  obtain ⟨v, _, ⟨T', L', k', n'⟩, -, X', ⟨Lc, hQ, rfl, rfl, rfl⟩, st⟩ := X.specialBackNest C.1 (y := y) hy1 hown (show (Jvm.Cond.methodLinkNest own index y host).before args s = true from (Cond.methodLinkNest_wide hZ w1 :)) (mvT hZ w2) (mvT hZ w4) hy (backOf (W := W) hM hZ w4 w3 hf hl) (g := mkF m pc Ls (asL.reverse ++ .ref a :: rest)) rfl hml.symm (Steps.refl _) (a := a) (argsL := asL) (rest := rest) (lenOf pd hlen) rfl (by show 2 * 0 + _ ≤ _; omega) (hb C.2 hd) (fun _ _ => ⟨rfl, eT, hcl, hsl⟩)
  exact .step (fun _ t => st.trans t) (k T' _ v Lc X' rfl hQ)
end OwnMore
theorem own_of {v : Int32} {j : Nat} (h : v.toInt = j) : v = Int32.ofNat j := by
  apply Int32.toInt_inj.mp
  have := rng32 v
  rw [h, Int32.toInt_ofNat_of_lt (by omega)]
theorem own_to {j : Nat} (h : j < 1000) : (Int32.ofNat j).toInt = j := Int32.toInt_ofNat_of_lt (by omega)
theorem own_add {v w : Int32} {j k : Nat} (h : v.toInt = j) (h' : w.toInt = k) (hj : j < 2000) (hk : k < 2000) : (v + w).toInt = ((j + k : Nat) : Int) := by
  have := c_iadd v w
  have r := rng32 (v + w)
  omega
theorem own_sub {v w : Int32} {j k : Nat} (h : v.toInt = j) (h' : w.toInt = k) (hj : j < 2000) (hk : k ≤ j) : (v - w).toInt = ((j - k : Nat) : Int) := by
  have := c_isub v w
  have r := rng32 (v - w)
  omega
theorem own_mul2 {v : Int32} {j : Nat} (h : v.toInt = j) (hj : j < 1000) : ((2 : Int32) * v).toInt = ((2 * j : Nat) : Int) := by
  have := c_imul 2 v
  have r := rng32 (2 * v)
  rw [show (2 : Int32).toInt = 2 from rfl] at this
  omega
theorem own_mid {u v : Int32} {lo hi : Nat} (hu : u.toInt = lo) (hv : v.toInt = hi) (h1 : lo < 1000) (h2 : hi < 1000) : (ushr (u + v) (1 : Int32)).toInt = (((lo + hi) / 2 : Nat) : Int) := by
  have := c_iushr (u + v) 1 1 (by decide) (by decide)
  rw [own_add hu hv (by omega) (by omega)] at this
  have e : (ushr (u + v) (1 : Int32)).toInt = _ := this
  rw [e]; omega
def BD (Z : State) (h : Heap) (a : Addr) (v0 v1 : Value) : Prop := Exa Z h a "com/example/scanloom/scanloom/lexer/CodePointSet$Builder" ∧ Fld Z h a "com/example/scanloom/scanloom/lexer/CodePointSet$Builder" "ranges" "[I" v0 ∧ Fld Z h a "com/example/scanloom/scanloom/lexer/CodePointSet$Builder" "count" "I" v1
theorem BD.ext {Z : State} {h h' : Heap} {a : Addr} {v0 v1 : Value} (P : BD Z h a v0 v1) (E : Ext h h') : BD Z h' a v0 v1 := ⟨P.1.ext E, P.2.1.ext E, P.2.2.ext E⟩
theorem BD.keep {Z : State} {h h' : Heap} {a : Addr} {v0 v1 : Value} {ws : List Addr} (P : BD Z h a v0 v1) (K : Keep h h' ws) (q : a ∉ ws) : BD Z h' a v0 v1 := ⟨P.1.keep K, P.2.1.keep K q, P.2.2.keep K q⟩
theorem BD.other {Z : State} {h h' : Heap} {a : Addr} {v0 v1 : Value} {b : Addr} {sl : Nat} {w : Value} (P : BD Z h a v0 v1) (W : Wr h h' b sl w) (q : a ≠ b) : BD Z h' a v0 v1 := ⟨P.1.wr W, P.2.1.other W (Or.inl q), P.2.2.other W (Or.inl q)⟩
theorem BD.wr0 {Z : State} {h h' : Heap} {a : Addr} {v0 v1 : Value} {w : Value} {a0 : Array Value} (hw : ∀ d ∈ tables_1, d.before a0 Z = true) (P : BD Z h a v0 v1) (W : Wr h h' a (Jvm.RoadKit.slotOf Z "com/example/scanloom/scanloom/lexer/CodePointSet$Builder" "ranges" "[I") w) : BD Z h' a w v1 := ⟨P.1.wr W, P.2.1.same W, P.2.2.other W (Or.inr (slot_ne (Or.inl (hw _ (List.mem_of_getElem? (i := 20) rfl))) (Or.inl (hw _ (List.mem_of_getElem? (i := 13) rfl))) (by decide) (t := .int) (t' := (.array .int)) (by decide) (by decide)))⟩
theorem BD.wr1 {Z : State} {h h' : Heap} {a : Addr} {v0 v1 : Value} {w : Value} {a0 : Array Value} (hw : ∀ d ∈ tables_1, d.before a0 Z = true) (P : BD Z h a v0 v1) (W : Wr h h' a (Jvm.RoadKit.slotOf Z "com/example/scanloom/scanloom/lexer/CodePointSet$Builder" "count" "I") w) : BD Z h' a v0 w := ⟨P.1.wr W, P.2.1.other W (Or.inr (slot_ne (Or.inl (hw _ (List.mem_of_getElem? (i := 13) rfl))) (Or.inl (hw _ (List.mem_of_getElem? (i := 20) rfl))) (by decide) (t := (.array .int)) (t' := .int) (by decide) (by decide))), P.2.2.same W⟩
def CS (Z : State) (h : Heap) (a : Addr) (v0 : Value) : Prop := Exa Z h a "com/example/scanloom/scanloom/lexer/CodePointSet" ∧ Fld Z h a "com/example/scanloom/scanloom/lexer/CodePointSet" "ranges" "[I" v0
theorem CS.ext {Z : State} {h h' : Heap} {a : Addr} {v0 : Value} (P : CS Z h a v0) (E : Ext h h') : CS Z h' a v0 := ⟨P.1.ext E, P.2.ext E⟩
theorem CS.keep {Z : State} {h h' : Heap} {a : Addr} {v0 : Value} {ws : List Addr} (P : CS Z h a v0) (K : Keep h h' ws) (q : a ∉ ws) : CS Z h' a v0 := ⟨P.1.keep K, P.2.keep K q⟩
theorem CS.other {Z : State} {h h' : Heap} {a : Addr} {v0 : Value} {b : Addr} {sl : Nat} {w : Value} (P : CS Z h a v0) (W : Wr h h' b sl w) (q : a ≠ b) : CS Z h' a v0 := ⟨P.1.wr W, P.2.other W (Or.inl q)⟩
theorem CS.wr0 {Z : State} {h h' : Heap} {a : Addr} {v0 : Value} {w : Value} {a0 : Array Value} (hw : ∀ d ∈ tables_1, d.before a0 Z = true) (P : CS Z h a v0) (W : Wr h h' a (Jvm.RoadKit.slotOf Z "com/example/scanloom/scanloom/lexer/CodePointSet" "ranges" "[I") w) : CS Z h' a w := ⟨P.1.wr W, P.2.same W⟩
theorem d6_0 : decode jdk_29_method_69_code 0 = .ok (.iload_n 0, 1) := by decide +kernel
theorem d6_1 : decode jdk_29_method_69_code 1 = .ok (.iload_n 1, 1) := by decide +kernel
theorem d6_2 : decode jdk_29_method_69_code 2 = .ok (.if_icmp .gt 7, 3) := by decide +kernel
theorem d6_5 : decode jdk_29_method_69_code 5 = .ok (.iload_n 0, 1) := by decide +kernel
theorem d6_6 : decode jdk_29_method_69_code 6 = .ok (.goto 4, 3) := by decide +kernel
theorem d6_9 : decode jdk_29_method_69_code 9 = .ok (.iload_n 1, 1) := by decide +kernel
theorem d6_10 : decode jdk_29_method_69_code 10 = .ok (.ireturn, 1) := by decide +kernel
theorem pn_6 : plainFor (⟨"java/lang/Math", "min", "(II)I"⟩ : MethodName) = true := by first | exact plainFor_of_name (by first | (simp [plainName, overriddenIn]; done) | decide +kernel) | decide +kernel
theorem ef_6 (m : MethodId) (u0 : Int32) (u1 : Int32) : entryFrame m #[(.int u0), (.int u1)] 2 = (mkF m 0 #[.val (.int u0), .val (.int u1)] []) := by first | (simp [entryFrame, mkF, argsToLocals, Value.category]; done) | rfl
def FMi (u0 : Int32) (u1 : Int32) : Int32 := (if u1 < u0 then u1 else u0)
set_option maxRecDepth 65536 in
set_option maxHeartbeats 40000000 in
theorem rm6 (l : Launch) (Z : State) (a0 : Array Value) (hw : ∀ d ∈ tables_1, d.before a0 Z = true) (u0 : Int32) (u1 : Int32) (h0 : Heap) : Con l Z (⟨"java/lang/Math", "min", "(II)I"⟩ : MethodName) jdk_29_method_69_code 2 (some .int) ({ frames := 0, cells := 0, slots := 0, locals := 0 } : Room) 0 0 [] #[(.int u0), (.int u1)] h0 (PQ (.int (FMi u0 u1)) h0) := by
  refine Con.of pn_6 ?_
  intro p e s m below meth c T C hZ hml hown hret hnm hlk X e0
  rw [ef_6]
  refine o_iloadN C X d6_0 1 rfl rfl ?_
  refine o_iloadN C X d6_1 2 rfl rfl ?_
  by_cases q1 : u1 < u0
  · skip
    refine o_icmpY C X d6_2 9 (by decide) (by decide) (tlt q1).2.2.1 ?_
    refine o_iloadN C X d6_9 10 rfl rfl ?_
    refine o_retI C X hret hlk d6_10 ⟨congrArg some (congrArg _ (by rw [FMi]; simp only [if_pos q1] <;> rfl)), rfl, e0⟩ (Nat.le_refl _) (Nat.le_refl _)
  · skip
    refine o_icmpN C X d6_2 5 rfl (flt q1).2.2.1 ?_
    refine o_iloadN C X d6_5 6 rfl rfl ?_
    refine o_goto C X d6_6 10 (by decide) (by decide) ?_
    refine o_retI C X hret hlk d6_10 ⟨congrArg some (congrArg _ (by rw [FMi]; simp only [if_neg q1] <;> rfl)), rfl, e0⟩ (Nat.le_refl _) (Nat.le_refl _)
theorem pd_0 : parseMethodDescriptor "(II)I" = some ⟨[.int, .int], some .int⟩ := by decide +kernel
theorem d5_0 : decode jdk_65_method_123_code 0 = .ok (.iload_n 1, 1) := by decide +kernel
theorem d5_1 : decode jdk_65_method_123_code 1 = .ok (.aload_n 0, 1) := by decide +kernel
theorem d5_2 : decode jdk_65_method_123_code 2 = .ok (.arraylength, 1) := by decide +kernel
theorem d5_3 : decode jdk_65_method_123_code 3 = .ok (.if_icmp .ne 11, 3) := by decide +kernel
theorem d5_6 : decode jdk_65_method_123_code 6 = .ok (.aload_n 0, 1) := by decide +kernel
theorem d5_7 : decode jdk_65_method_123_code 7 = .ok (.invokevirtual 316, 3) := by decide +kernel
theorem d5_10 : decode jdk_65_method_123_code 10 = .ok (.checkcast 317, 3) := by decide +kernel
theorem d5_13 : decode jdk_65_method_123_code 13 = .ok (.areturn, 1) := by decide +kernel
theorem d5_14 : decode jdk_65_method_123_code 14 = .ok (.iload_n 1, 1) := by decide +kernel
theorem d5_15 : decode jdk_65_method_123_code 15 = .ok (.newarray .int, 2) := by decide +kernel
theorem d5_17 : decode jdk_65_method_123_code 17 = .ok (.astore_n 2, 1) := by decide +kernel
theorem d5_18 : decode jdk_65_method_123_code 18 = .ok (.aload_n 0, 1) := by decide +kernel
theorem d5_19 : decode jdk_65_method_123_code 19 = .ok (.iconst 0, 1) := by decide +kernel
theorem d5_20 : decode jdk_65_method_123_code 20 = .ok (.aload_n 2, 1) := by decide +kernel
theorem d5_21 : decode jdk_65_method_123_code 21 = .ok (.iconst 0, 1) := by decide +kernel
theorem d5_22 : decode jdk_65_method_123_code 22 = .ok (.aload_n 0, 1) := by decide +kernel
theorem d5_23 : decode jdk_65_method_123_code 23 = .ok (.arraylength, 1) := by decide +kernel
theorem d5_24 : decode jdk_65_method_123_code 24 = .ok (.iload_n 1, 1) := by decide +kernel
theorem d5_25 : decode jdk_65_method_123_code 25 = .ok (.invokestatic 304, 3) := by decide +kernel
theorem d5_28 : decode jdk_65_method_123_code 28 = .ok (.invokestatic 150, 3) := by decide +kernel
theorem d5_31 : decode jdk_65_method_123_code 31 = .ok (.aload_n 2, 1) := by decide +kernel
theorem d5_32 : decode jdk_65_method_123_code 32 = .ok (.areturn, 1) := by decide +kernel
theorem pn_5 : plainFor (⟨"java/util/Arrays", "copyOf", "([II)[I"⟩ : MethodName) = true := by first | exact plainFor_of_name (by first | (simp [plainName, overriddenIn]; done) | decide +kernel) | decide +kernel
theorem ef_5 (m : MethodId) (r : Addr) (z : Int32) : entryFrame m #[(.ref r), (.int z)] 3 = (mkF m 0 #[.val (.ref r), .val (.int z), .unset] []) := by first | (simp [entryFrame, mkF, argsToLocals, Value.category]; done) | rfl
set_option maxRecDepth 65536 in
set_option maxHeartbeats 40000000 in
theorem rm5 (l : Launch) (Z : State) (a0 : Array Value) (hw : ∀ d ∈ tables_1, d.before a0 Z = true) (r : Addr) (z : Int32) (h0 : Heap) (n1 n2 n0 : Nat) (f : Nat → Int32) (hz : z.toInt = n2) (hn1 : n1 ≤ 16) (hn2 : n2 ≤ 16) (Z0 : n0 ≤ h0.size) (A : AI Z h0 r .int n1 f) (Ex : Exa Z h0 r "[I") : Con l Z (⟨"java/util/Arrays", "copyOf", "([II)[I"⟩ : MethodName) jdk_65_method_123_code 3 (some (.array .int)) ({ frames := 1, cells := 1, slots := 16, locals := 40 } : Room) 1 16 [] #[(.ref r), (.int z)] h0 (fun v h L => ∃ r' g, v = some (.ref r') ∧ Fr n0 L ∧ Keep h0 h [] ∧ n0 ≤ r' ∧ h0.size ≤ r' ∧ AI Z h r' .int n2 g ∧ Exa Z h r' "[I" ∧ ∀ j, j < n1 → j < n2 → g j = f j) := by
  refine Con.of pn_5 ?_
  intro p e s m below meth c T C hZ hml hown hret hnm hlk X e0
  rw [ef_5]
  have N0 := Fr.nil n0
  have h1 : (Int32.ofNat n1).toInt = n1 := own_to (by omega)
  refine o_iloadN C X d5_0 1 rfl rfl ?_
  refine o_aloadN C X d5_1 2 rfl rfl rfl ?_
  refine o_arraylength C X hZ e0 A (Int32.ofNat n1) rfl d5_2 3 rfl ?_
  by_cases q0 : z = (Int32.ofNat n1)
  · skip
    refine o_icmpN C X d5_3 6 rfl (teq q0).2 ?_
    obtain rfl : n1 = n2 := by rw [q0] at hz; omega
    refine o_aloadN C X d5_6 7 rfl rfl rfl ?_
    refine o_cloneI C X hZ (by rw [hml]; rfl) hown (hw _ (List.mem_of_getElem? (i := 64) rfl)) (hw _ (List.mem_of_getElem? (i := 65) rfl)) (hw _ (List.mem_of_getElem? (i := 69) rfl)) (hw _ (List.mem_of_getElem? (i := 67) rfl)) (hw _ (List.mem_of_getElem? (i := 68) rfl)) (hw _ (List.mem_of_getElem? (i := 70) rfl)) e0 A Ex 0 (Nat.le_of_eq rfl) (by decide) (by decide) 16 hn1 (by decide) (by decide) d5_7 10 rfl ?_
    intro T h9 b9 g9 X e9 E9 A9 Ex9
    refine o_cast C X hZ hown (hw _ (List.mem_of_getElem? (i := 71) rfl)) e9 Ex9 d5_10 13 rfl ?_
    intro T X e9
    exact o_retA C X hret rfl hlk d5_13 (by subst e9; exact ⟨b9, f, rfl, N0, (Keep.refl h0 []).ext E9, by rw [g9]; exact Z0, by rw [g9]; exact Nat.le_refl _, A9, Ex9, fun _ _ _ => rfl⟩) (by decide) (by decide)
  refine o_icmpY C X d5_3 14 (by decide) (by decide) (feq q0).2 ?_
  refine o_iloadN C X d5_14 15 rfl rfl ?_
  refine o_newarrayIE C X hZ (hw _ (List.mem_of_getElem? (i := 11) rfl)) e0 (n2) hz (16) hn2 (by decide) (by decide) (by decide) d5_15 17 rfl ?_
  intro T h_1 r2 g_r2 X e_1 E_1 Ar2_1 Exr2_1
  have ne_r_r2 : r ≠ r2 := by rw [g_r2]; exact Nat.ne_of_lt A.lt
  have ge_r2 : n0 ≤ r2 := by rw [g_r2]; exact Z0
  have Z_1 : n0 ≤ h_1.size := Nat.le_trans Z0 E_1.1
  have K_1 := (Keep.refl h0 []).ext E_1
  have Ar_1 := A.ext E_1
  have Exr_1 := Ex.ext E_1
  refine o_astoreN C X d5_17 18 rfl rfl #[.val (.ref r), .val (.int z), .val (.ref r2)] rfl ?_
  refine o_aloadN C X d5_18 19 rfl rfl rfl ?_
  refine o_iconst C X d5_19 20 rfl (0 : Int32) (by decide) ?_
  refine o_aloadN C X d5_20 21 rfl rfl rfl ?_
  refine o_iconst C X d5_21 22 rfl (0 : Int32) (by decide) ?_
  refine o_aloadN C X d5_22 23 rfl rfl rfl ?_
  refine o_arraylength C X hZ e_1 Ar_1 (Int32.ofNat n1) rfl d5_23 24 rfl ?_
  refine o_iloadN C X d5_24 25 rfl rfl ?_
  refine o_callP C X hZ (by rw [hml]; rfl) (own := "java/util/Arrays") (y := (⟨"java/lang/Math", "min", "(II)I"⟩ : MethodName)) (rf := 0) (rl := 0) hown (hw _ (List.mem_of_getElem? (i := 33) rfl)) (hw _ (List.mem_of_getElem? (i := 34) rfl)) (hw _ (List.mem_of_getElem? (i := 35) rfl)) (hw _ (List.mem_of_getElem? (i := 36) rfl)) (by decide) (asL := [(.int (Int32.ofNat n1)), (.int z)]) (rm6 l Z a0 hw (Int32.ofNat n1) z h_1) e_1 pd_0 rfl rfl 4 (Nat.le_of_eq rfl) (by decide) (by decide) (by decide) (by decide) d5_25 28 rfl ?_
  intro T X e_1
  have hmin : (FMi (Int32.ofNat n1) z).toInt = ((min n1 n2 : Nat) : Int) := by
    unfold FMi
    by_cases g : z < Int32.ofNat n1
    · rw [if_pos g]; rw [Int32.lt_iff_toInt_lt] at g; omega
    · rw [if_neg g]; rw [Int32.lt_iff_toInt_lt] at g; omega
  generalize hmm : (FMi (Int32.ofNat n1) z) = mm
  rw [hmm] at hmin
  refine o_arraycopy C X hZ (by rw [hml]; rfl) hown (hw _ (List.mem_of_getElem? (i := 37) rfl)) (hw _ (List.mem_of_getElem? (i := 40) rfl)) (hw _ (List.mem_of_getElem? (i := 38) rfl)) (hw _ (List.mem_of_getElem? (i := 39) rfl)) e_1 Ar_1 Ar2_1 (min n1 n2) hmin (by omega) (by omega) N0 ge_r2 0 (Nat.le_of_eq rfl) (by decide) (by decide) d5_28 31 rfl ?_
  intro T h_2 locs_2 X e_2 N0 K_2 A_2
  refine o_aloadN C X d5_31 32 rfl rfl rfl ?_
  exact o_retA C X hret rfl hlk d5_32 (by subst e_2; exact ⟨r2, _, rfl, N0, K_1.trans K_2 (allS (Or.inr (Nat.le_of_eq g_r2.symm)) all0), ge_r2, (Nat.le_of_eq g_r2.symm), A_2, Exr2_1.keep K_2, fun j h1 h2 => by (try dsimp only); rw [if_pos (by omega)]⟩) (by decide) (by decide)
theorem d1_0 : decode prog_25_method_1_code 0 = .ok (.aload_n 0, 1) := by decide +kernel
theorem d1_1 : decode prog_25_method_1_code 1 = .ok (.invokespecial 1, 3) := by decide +kernel
theorem d1_4 : decode prog_25_method_1_code 4 = .ok (.aload_n 0, 1) := by decide +kernel
theorem d1_5 : decode prog_25_method_1_code 5 = .ok (.bipush 8, 2) := by decide +kernel
theorem d1_7 : decode prog_25_method_1_code 7 = .ok (.newarray .int, 2) := by decide +kernel
theorem d1_9 : decode prog_25_method_1_code 9 = .ok (.putfield 7, 3) := by decide +kernel
theorem d1_12 : decode prog_25_method_1_code 12 = .ok (.return_, 1) := by decide +kernel
theorem pn_1 : plainFor (⟨"com/example/scanloom/scanloom/lexer/CodePointSet$Builder", "<init>", "()V"⟩ : MethodName) = true := by first | exact plainFor_of_name (by first | (simp [plainName, overriddenIn]; done) | decide +kernel) | decide +kernel
theorem ef_1 (m : MethodId) (a : Addr) : entryFrame m #[(.ref a)] 1 = (mkF m 0 #[.val (.ref a)] []) := by first | (simp [entryFrame, mkF, argsToLocals, Value.category]; done) | rfl
set_option maxRecDepth 65536 in
set_option maxHeartbeats 40000000 in
theorem rm1 (l : Launch) (Z : State) (a0 : Array Value) (hw : ∀ d ∈ tables_1, d.before a0 Z = true) (a : Addr) (h0 : Heap) (n0 : Nat) (Z0 : n0 ≤ h0.size) (ge_a : n0 ≤ a) (P : BD Z h0 a .null (.int 0)) : Con l Z (⟨"com/example/scanloom/scanloom/lexer/CodePointSet$Builder", "<init>", "()V"⟩ : MethodName) prog_25_method_1_code 1 none ({ frames := 1, cells := 1, slots := 8, locals := 12 } : Room) 1 8 [] #[(.ref a)] h0 (fun v h L => ∃ r, v = none ∧ Fr n0 L ∧ Keep h0 h [a] ∧ n0 ≤ r ∧ a ≠ r ∧ BD Z h a (.ref r) (.int 0) ∧ AI Z h r .int 8 (fun _ => 0) ∧ Exa Z h r "[I") := by
  refine Con.of pn_1 ?_
  intro p e s m below meth c T C hZ hml hown hret hnm hlk X e0
  rw [ef_1]
  have N0 := Fr.nil n0
  refine o_aloadN C X d1_0 1 rfl rfl rfl ?_
  refine o_initO C X hZ (by rw [hml]; rfl) hown (hw _ (List.mem_of_getElem? (i := 8) rfl)) (hw _ (List.mem_of_getElem? (i := 9) rfl)) (hw _ (List.mem_of_getElem? (i := 10) rfl)) e0 0 (Nat.le_of_eq rfl) (by decide) (by decide) d1_1 4 rfl ?_
  intro T X e0
  refine o_aloadN C X d1_4 5 rfl rfl rfl ?_
  refine o_bipush C X d1_5 7 rfl (8 : Int32) (by decide) ?_
  refine o_newarrayIE C X hZ (hw _ (List.mem_of_getElem? (i := 11) rfl)) e0 (8) (by decide) (8) (by decide) (by decide) (by decide) (by decide) d1_7 9 rfl ?_
  intro T h_1 r g_r X e_1 E_1 Ar_1 Exr_1
  have ne_a_r : a ≠ r := by rw [g_r]; exact Nat.ne_of_lt P.1.lt
  have ge_r : n0 ≤ r := by rw [g_r]; exact Z0
  have Z_1 : n0 ≤ h_1.size := Nat.le_trans Z0 E_1.1
  have K_1 := (Keep.refl h0 [a]).ext E_1
  have Pa_1 := P.ext E_1
  refine o_putF C X hZ hown (hw _ (List.mem_of_getElem? (i := 12) rfl)) Via.refl e_1 Pa_1.2.1 Pa_1.1 (Or.inl (hw _ (List.mem_of_getElem? (i := 13) rfl))) (hw _ (List.mem_of_getElem? (i := 3) rfl)) (ty := (.array .int)) (by decide) rfl rfl d1_9 12 rfl N0 ge_a ?_
  intro T h_2 locs_2 X e_2 W_2 N0
  have Pa_2 := Pa_1.wr0 hw W_2
  have Ar_2 := Ar_1.other W_2 (Ne.symm ne_a_r)
  have Exr_2 := Exr_1.wr W_2
  have K_2 := K_1.wr W_2 (Or.inl (by simp))
  exact o_ret C X hret hlk d1_12 (by subst e_2; exact ⟨r, rfl, N0, K_2, ge_r, ne_a_r, Pa_2, Ar_2, Exr_2⟩) (by decide) (by decide)
theorem pd_1 : parseMethodDescriptor "([II)[I" = some ⟨[(.array .int), .int], some (.array .int)⟩ := by decide +kernel
/-- what add makes of the places so far -/
def ADD (n : Nat) (f : Nat → Int32) (u0 u1 : Int32) (n' : Nat) (g : Nat → Int32) : Prop :=
  (0 < n ∧ u0 = f (n - 1) + 1 ∧ n' = n ∧ (∀ j, j < n - 1 → g j = f j) ∧ g (n - 1) = u1) ∨ (¬ (0 < n ∧ u0 = f (n - 1) + 1) ∧ n' = n + 2 ∧ (∀ j, j < n → g j = f j) ∧ g n = u0 ∧ g (n + 1) = u1)
theorem d3_0 : decode prog_25_method_2_code 0 = .ok (.aload_n 0, 1) := by decide +kernel
theorem d3_1 : decode prog_25_method_2_code 1 = .ok (.getfield 13, 3) := by decide +kernel
theorem d3_4 : decode prog_25_method_2_code 4 = .ok (.ifCond .le 34, 3) := by decide +kernel
theorem d3_7 : decode prog_25_method_2_code 7 = .ok (.iload_n 1, 1) := by decide +kernel
theorem d3_8 : decode prog_25_method_2_code 8 = .ok (.aload_n 0, 1) := by decide +kernel
theorem d3_9 : decode prog_25_method_2_code 9 = .ok (.getfield 7, 3) := by decide +kernel
theorem d3_12 : decode prog_25_method_2_code 12 = .ok (.aload_n 0, 1) := by decide +kernel
theorem d3_13 : decode prog_25_method_2_code 13 = .ok (.getfield 13, 3) := by decide +kernel
theorem d3_16 : decode prog_25_method_2_code 16 = .ok (.iconst 1, 1) := by decide +kernel
theorem d3_17 : decode prog_25_method_2_code 17 = .ok (.isub, 1) := by decide +kernel
theorem d3_18 : decode prog_25_method_2_code 18 = .ok (.iaload, 1) := by decide +kernel
theorem d3_19 : decode prog_25_method_2_code 19 = .ok (.iconst 1, 1) := by decide +kernel
theorem d3_20 : decode prog_25_method_2_code 20 = .ok (.iadd, 1) := by decide +kernel
theorem d3_21 : decode prog_25_method_2_code 21 = .ok (.if_icmp .ne 17, 3) := by decide +kernel
theorem d3_24 : decode prog_25_method_2_code 24 = .ok (.aload_n 0, 1) := by decide +kernel
theorem d3_25 : decode prog_25_method_2_code 25 = .ok (.getfield 7, 3) := by decide +kernel
theorem d3_28 : decode prog_25_method_2_code 28 = .ok (.aload_n 0, 1) := by decide +kernel
theorem d3_29 : decode prog_25_method_2_code 29 = .ok (.getfield 13, 3) := by decide +kernel
theorem d3_32 : decode prog_25_method_2_code 32 = .ok (.iconst 1, 1) := by decide +kernel
theorem d3_33 : decode prog_25_method_2_code 33 = .ok (.isub, 1) := by decide +kernel
theorem d3_34 : decode prog_25_method_2_code 34 = .ok (.iload_n 2, 1) := by decide +kernel
theorem d3_35 : decode prog_25_method_2_code 35 = .ok (.iastore, 1) := by decide +kernel
theorem d3_36 : decode prog_25_method_2_code 36 = .ok (.aload_n 0, 1) := by decide +kernel
theorem d3_37 : decode prog_25_method_2_code 37 = .ok (.areturn, 1) := by decide +kernel
theorem d3_38 : decode prog_25_method_2_code 38 = .ok (.aload_n 0, 1) := by decide +kernel
theorem d3_39 : decode prog_25_method_2_code 39 = .ok (.getfield 13, 3) := by decide +kernel
theorem d3_42 : decode prog_25_method_2_code 42 = .ok (.aload_n 0, 1) := by decide +kernel
theorem d3_43 : decode prog_25_method_2_code 43 = .ok (.getfield 7, 3) := by decide +kernel
theorem d3_46 : decode prog_25_method_2_code 46 = .ok (.arraylength, 1) := by decide +kernel
theorem d3_47 : decode prog_25_method_2_code 47 = .ok (.if_icmp .ne 20, 3) := by decide +kernel
theorem d3_50 : decode prog_25_method_2_code 50 = .ok (.aload_n 0, 1) := by decide +kernel
theorem d3_51 : decode prog_25_method_2_code 51 = .ok (.aload_n 0, 1) := by decide +kernel
theorem d3_52 : decode prog_25_method_2_code 52 = .ok (.getfield 7, 3) := by decide +kernel
theorem d3_55 : decode prog_25_method_2_code 55 = .ok (.iconst 2, 1) := by decide +kernel
theorem d3_56 : decode prog_25_method_2_code 56 = .ok (.aload_n 0, 1) := by decide +kernel
theorem d3_57 : decode prog_25_method_2_code 57 = .ok (.getfield 13, 3) := by decide +kernel
theorem d3_60 : decode prog_25_method_2_code 60 = .ok (.imul, 1) := by decide +kernel
theorem d3_61 : decode prog_25_method_2_code 61 = .ok (.invokestatic 17, 3) := by decide +kernel
theorem d3_64 : decode prog_25_method_2_code 64 = .ok (.putfield 7, 3) := by decide +kernel
theorem d3_67 : decode prog_25_method_2_code 67 = .ok (.aload_n 0, 1) := by decide +kernel
theorem d3_68 : decode prog_25_method_2_code 68 = .ok (.getfield 7, 3) := by decide +kernel
theorem d3_71 : decode prog_25_method_2_code 71 = .ok (.aload_n 0, 1) := by decide +kernel
theorem d3_72 : decode prog_25_method_2_code 72 = .ok (.dup, 1) := by decide +kernel
theorem d3_73 : decode prog_25_method_2_code 73 = .ok (.getfield 13, 3) := by decide +kernel
theorem d3_76 : decode prog_25_method_2_code 76 = .ok (.dup_x1, 1) := by decide +kernel
theorem d3_77 : decode prog_25_method_2_code 77 = .ok (.iconst 1, 1) := by decide +kernel
theorem d3_78 : decode prog_25_method_2_code 78 = .ok (.iadd, 1) := by decide +kernel
theorem d3_79 : decode prog_25_method_2_code 79 = .ok (.putfield 13, 3) := by decide +kernel
theorem d3_82 : decode prog_25_method_2_code 82 = .ok (.iload_n 1, 1) := by decide +kernel
theorem d3_83 : decode prog_25_method_2_code 83 = .ok (.iastore, 1) := by decide +kernel
theorem d3_84 : decode prog_25_method_2_code 84 = .ok (.aload_n 0, 1) := by decide +kernel
theorem d3_85 : decode prog_25_method_2_code 85 = .ok (.getfield 7, 3) := by decide +kernel
theorem d3_88 : decode prog_25_method_2_code 88 = .ok (.aload_n 0, 1) := by decide +kernel
theorem d3_89 : decode prog_25_method_2_code 89 = .ok (.dup, 1) := by decide +kernel
theorem d3_90 : decode prog_25_method_2_code 90 = .ok (.getfield 13, 3) := by decide +kernel
theorem d3_93 : decode prog_25_method_2_code 93 = .ok (.dup_x1, 1) := by decide +kernel
theorem d3_94 : decode prog_25_method_2_code 94 = .ok (.iconst 1, 1) := by decide +kernel
theorem d3_95 : decode prog_25_method_2_code 95 = .ok (.iadd, 1) := by decide +kernel
theorem d3_96 : decode prog_25_method_2_code 96 = .ok (.putfield 13, 3) := by decide +kernel
theorem d3_99 : decode prog_25_method_2_code 99 = .ok (.iload_n 2, 1) := by decide +kernel
theorem d3_100 : decode prog_25_method_2_code 100 = .ok (.iastore, 1) := by decide +kernel
theorem d3_101 : decode prog_25_method_2_code 101 = .ok (.aload_n 0, 1) := by decide +kernel
theorem d3_102 : decode prog_25_method_2_code 102 = .ok (.areturn, 1) := by decide +kernel
theorem pn_3 : plainFor (⟨"com/example/scanloom/scanloom/lexer/CodePointSet$Builder", "add", "(II)Lcom/example/scanloom/scanloom/lexer/CodePointSet$Builder;"⟩ : MethodName) = true := by first | exact plainFor_of_name (by first | (simp [plainName, overriddenIn]; done) | decide +kernel) | decide +kernel
theorem ef_3 (m : MethodId) (a : Addr) (u0 : Int32) (u1 : Int32) : entryFrame m #[(.ref a), (.int u0), (.int u1)] 3 = (mkF m 0 #[.val (.ref a), .val (.int u0), .val (.int u1)] []) := by first | (simp [entryFrame, mkF, argsToLocals, Value.category]; done) | rfl
set_option maxRecDepth 65536 in
set_option maxHeartbeats 40000000 in
theorem rm3 (l : Launch) (Z : State) (a0 : Array Value) (hw : ∀ d ∈ tables_1, d.before a0 Z = true) (a r : Addr) (u0 u1 k0 : Int32) (f : Nat → Int32) (n cap : Nat) (h0 : Heap) (n0 : Nat) (Z0 : n0 ≤ h0.size) (ge_a : n0 ≤ a) (ge_r : n0 ≤ r) (ne : a ≠ r) (hk : k0.toInt = n) (hcap : cap = 8 ∨ cap = 16) (hn : n ≤ cap) (hn10 : n ≤ 10) (hev : n % 2 = 0) (P : BD Z h0 a (.ref r) (.int k0)) (A : AI Z h0 r .int cap f) (Ex : Exa Z h0 r "[I") : Con l Z (⟨"com/example/scanloom/scanloom/lexer/CodePointSet$Builder", "add", "(II)Lcom/example/scanloom/scanloom/lexer/CodePointSet$Builder;"⟩ : MethodName) prog_25_method_2_code 3 (some (.object "com/example/scanloom/scanloom/lexer/CodePointSet$Builder")) ({ frames := 2, cells := 1, slots := 16, locals := 60 } : Room) 1 16 [] #[(.ref a), (.int u0), (.int u1)] h0 (fun v h L => ∃ (r' : Addr) (cap' n' : Nat) (k' : Int32) (g : Nat → Int32), v = some (.ref a) ∧ Fr n0 L ∧ Keep h0 h [a, r] ∧ n0 ≤ r' ∧ a ≠ r' ∧ BD Z h a (.ref r') (.int k') ∧ k'.toInt = (n' : Int) ∧ AI Z h r' .int cap' g ∧ Exa Z h r' "[I" ∧ (cap' = 8 ∨ cap' = 16) ∧ n' ≤ cap' ∧ ADD n f u0 u1 n' g) := by
  refine Con.of pn_3 ?_
  intro p e s m below meth c T C hZ hml hown hret hnm hlk X e0
  rw [ef_3]
  have N0 := Fr.nil n0
  refine o_aloadN C X d3_0 1 rfl rfl rfl ?_
  refine o_getF C X hZ hown (hw _ (List.mem_of_getElem? (i := 19) rfl)) Via.refl e0 P.2.2 d3_1 4 rfl ?_
  intro T X e0
  by_cases c0 : (0 : Int32) < k0
  · skip
    refine o_ifN C X d3_4 7 rfl ((if0 _ _).trans (tlt c0).2.2.2) ?_
    have hpos : 0 < n := by rw [Int32.lt_iff_toInt_lt, hk, show (0 : Int32).toInt = 0 from rfl] at c0; omega
    refine o_iloadN C X d3_7 8 rfl rfl ?_
    refine o_aloadN C X d3_8 9 rfl rfl rfl ?_
    refine o_getF C X hZ hown (hw _ (List.mem_of_getElem? (i := 12) rfl)) Via.refl e0 P.2.1 d3_9 12 rfl ?_
    intro T X e0
    refine o_aloadN C X d3_12 13 rfl rfl rfl ?_
    refine o_getF C X hZ hown (hw _ (List.mem_of_getElem? (i := 19) rfl)) Via.refl e0 P.2.2 d3_13 16 rfl ?_
    intro T X e0
    refine o_iconst C X d3_16 17 rfl (1 : Int32) (by decide) ?_
    refine o_isub C X d3_17 18 rfl ?_
    refine o_iaload C X hZ e0 A (n - 1) (own_sub hk rfl (by omega) hpos) (by omega) d3_18 19 rfl ?_
    refine o_iconst C X d3_19 20 rfl (1 : Int32) (by decide) ?_
    refine o_iadd C X d3_20 21 rfl ?_
    by_cases t0 : u0 = ((f (n - 1)) + (1 : Int32))
    · skip
      refine o_icmpN C X d3_21 24 rfl (teq t0).2 ?_
      refine o_aloadN C X d3_24 25 rfl rfl rfl ?_
      refine o_getF C X hZ hown (hw _ (List.mem_of_getElem? (i := 12) rfl)) Via.refl e0 P.2.1 d3_25 28 rfl ?_
      intro T X e0
      refine o_aloadN C X d3_28 29 rfl rfl rfl ?_
      refine o_getF C X hZ hown (hw _ (List.mem_of_getElem? (i := 19) rfl)) Via.refl e0 P.2.2 d3_29 32 rfl ?_
      intro T X e0
      refine o_iconst C X d3_32 33 rfl (1 : Int32) (by decide) ?_
      refine o_isub C X d3_33 34 rfl ?_
      refine o_iloadN C X d3_34 35 rfl rfl ?_
      refine o_iastore C X hZ e0 A (n - 1) (own_sub hk rfl (by omega) hpos) (by omega) d3_35 36 rfl N0 ge_r ?_
      intro T h_1 locs_1 X e_1 W_1 N0 Ar_1
      have Pa_1 := P.other W_1 ne
      have Exr_1 := Ex.wr W_1
      have Z_1 : n0 ≤ h_1.size := by rw [W_1.size]; exact Z0
      have K_1 := (Keep.refl h0 [a, r]).wr W_1 (Or.inl (by simp))
      refine o_aloadN C X d3_36 37 rfl rfl rfl ?_
      exact o_retA C X hret rfl hlk d3_37 (by subst e_1; exact ⟨r, cap, n, _, _, rfl, N0, K_1, ge_r, ne, Pa_1, hk, Ar_1, Exr_1, hcap, by omega, Or.inl ⟨hpos, t0, rfl, fun j hj => by (try dsimp only); rw [if_neg (by omega)], by (try dsimp only); rw [if_pos rfl]⟩⟩) (by decide) (by decide)
    · skip
      refine o_icmpY C X d3_21 38 (by decide) (by decide) (feq t0).2 ?_
      refine o_aloadN C X d3_38 39 rfl rfl rfl ?_
      refine o_getF C X hZ hown (hw _ (List.mem_of_getElem? (i := 19) rfl)) Via.refl e0 P.2.2 d3_39 42 rfl ?_
      intro T X e0
      refine o_aloadN C X d3_42 43 rfl rfl rfl ?_
      refine o_getF C X hZ hown (hw _ (List.mem_of_getElem? (i := 12) rfl)) Via.refl e0 P.2.1 d3_43 46 rfl ?_
      intro T X e0
      refine o_arraylength C X hZ e0 A (Int32.ofNat cap) rfl d3_46 47 rfl ?_
      by_cases gr : k0 = (Int32.ofNat cap)
      · skip
        refine o_icmpN C X d3_47 50 rfl (teq gr).2 ?_
        refine o_aloadN C X d3_50 51 rfl rfl rfl ?_
        refine o_aloadN C X d3_51 52 rfl rfl rfl ?_
        refine o_getF C X hZ hown (hw _ (List.mem_of_getElem? (i := 12) rfl)) Via.refl e0 P.2.1 d3_52 55 rfl ?_
        intro T X e0
        refine o_iconst C X d3_55 56 rfl (2 : Int32) (by decide) ?_
        refine o_aloadN C X d3_56 57 rfl rfl rfl ?_
        refine o_getF C X hZ hown (hw _ (List.mem_of_getElem? (i := 19) rfl)) Via.refl e0 P.2.2 d3_57 60 rfl ?_
        intro T X e0
        refine o_imul C X d3_60 61 rfl ?_
        obtain rfl : n = cap := by have := own_to (show cap < 1000 by omega); rw [← gr] at this; omega
        obtain rfl : n = 8 := by omega
        refine o_callS C X hZ (by rw [hml]; rfl) (own := "com/example/scanloom/scanloom/lexer/CodePointSet$Builder") (y := (⟨"java/util/Arrays", "copyOf", "([II)[I"⟩ : MethodName)) hown (hw _ (List.mem_of_getElem? (i := 29) rfl)) (hw _ (List.mem_of_getElem? (i := 30) rfl)) (hw _ (List.mem_of_getElem? (i := 31) rfl)) (hw _ (List.mem_of_getElem? (i := 32) rfl)) (by decide) (asL := [(.ref r), (.int ((2 : Int32) * k0))]) (rm5 l Z a0 hw r ((2 : Int32) * k0) h0 8 16 n0 f (own_mul2 hk (by omega)) (by decide) (by decide) Z0 A Ex) e0 pd_1 rfl rfl 1 (Nat.le_of_eq rfl) (by decide) (by decide) (by decide) (by decide) d3_61 64 rfl ?_
        rintro T h_1 _ L_1 X e_1 ⟨r3, g_1, rfl, N_1, K_1, ge_r3, sz_1, A_1, Ex_1, hg_1⟩
        have N0 := Fr.app N0 N_1
        have ne_a_r3 : a ≠ r3 := Nat.ne_of_lt (Nat.lt_of_lt_of_le P.1.lt sz_1)
        have ne_r_r3 : r ≠ r3 := Nat.ne_of_lt (Nat.lt_of_lt_of_le A.lt sz_1)
        have Pa_1 := P.keep K_1 nin0
        have Ar_1 := A.keep K_1 nin0
        have Exr_1 := Ex.keep K_1
        have Kx_1 : Keep h0 h_1 [a, r] := (Keep.refl h0 [a, r]).trans K_1 (by simp)
        have Z_1 : n0 ≤ h_1.size := Nat.le_trans Z0 K_1.1
        refine o_putF C X hZ hown (hw _ (List.mem_of_getElem? (i := 12) rfl)) Via.refl e_1 Pa_1.2.1 Pa_1.1 (Or.inl (hw _ (List.mem_of_getElem? (i := 13) rfl))) (hw _ (List.mem_of_getElem? (i := 3) rfl)) (ty := (.array .int)) (by decide) rfl rfl d3_64 67 rfl N0 ge_a ?_
        intro T h_2 locs_2 X e_2 W_2 N0
        have Pa_2 := Pa_1.wr0 hw W_2
        have Ar_2 := Ar_1.other W_2 (Ne.symm ne)
        have Ar3_2 := A_1.other W_2 (Ne.symm ne_a_r3)
        have Exr_2 := Exr_1.wr W_2
        have Exr3_2 := Ex_1.wr W_2
        have K_2 := Kx_1.wr W_2 (Or.inl (by simp))
        have Z_2 : n0 ≤ h_2.size := by rw [W_2.size]; exact Z_1
        refine o_aloadN C X d3_67 68 rfl rfl rfl ?_
        refine o_getF C X hZ hown (hw _ (List.mem_of_getElem? (i := 12) rfl)) Via.refl e_2 Pa_2.2.1 d3_68 71 rfl ?_
        intro T X e_2
        refine o_aloadN C X d3_71 72 rfl rfl rfl ?_
        refine o_dup C X d3_72 73 rfl rfl ?_
        refine o_getF C X hZ hown (hw _ (List.mem_of_getElem? (i := 19) rfl)) Via.refl e_2 Pa_2.2.2 d3_73 76 rfl ?_
        intro T X e_2
        refine o_dup_x1 C X d3_76 77 rfl rfl rfl ?_
        refine o_iconst C X d3_77 78 rfl (1 : Int32) (by decide) ?_
        refine o_iadd C X d3_78 79 rfl ?_
        refine o_putF C X hZ hown (hw _ (List.mem_of_getElem? (i := 19) rfl)) Via.refl e_2 Pa_2.2.2 Pa_2.1 (Or.inl (hw _ (List.mem_of_getElem? (i := 20) rfl))) (hw _ (List.mem_of_getElem? (i := 3) rfl)) (ty := .int) (by decide) rfl rfl d3_79 82 rfl N0 ge_a ?_
        intro T h_3 locs_3 X e_3 W_3 N0
        have Pa_3 := Pa_2.wr1 hw W_3
        have Ar_3 := Ar_2.other W_3 (Ne.symm ne)
        have Ar3_3 := Ar3_2.other W_3 (Ne.symm ne_a_r3)
        have Exr_3 := Exr_2.wr W_3
        have Exr3_3 := Exr3_2.wr W_3
        have K_3 := K_2.wr W_3 (Or.inl (by simp))
        have Z_3 : n0 ≤ h_3.size := by rw [W_3.size]; exact Z_2
        refine o_iloadN C X d3_82 83 rfl rfl ?_
        refine o_iastore C X hZ e_3 Ar3_3 (8) hk (by omega) d3_83 84 rfl N0 ge_r3 ?_
        intro T h_4 locs_4 X e_4 W_4 N0 Ar3_4
        have Pa_4 := Pa_3.other W_4 ne_a_r3
        have Ar_4 := Ar_3.other W_4 ne_r_r3
        have Exr_4 := Exr_3.wr W_4
        have Exr3_4 := Exr3_3.wr W_4
        have Z_4 : n0 ≤ h_4.size := by rw [W_4.size]; exact Z_3
        have K_4 := K_3.wr W_4 (Or.inr sz_1)
        refine o_aloadN C X d3_84 85 rfl rfl rfl ?_
        refine o_getF C X hZ hown (hw _ (List.mem_of_getElem? (i := 12) rfl)) Via.refl e_4 Pa_4.2.1 d3_85 88 rfl ?_
        intro T X e_4
        refine o_aloadN C X d3_88 89 rfl rfl rfl ?_
        refine o_dup C X d3_89 90 rfl rfl ?_
        refine o_getF C X hZ hown (hw _ (List.mem_of_getElem? (i := 19) rfl)) Via.refl e_4 Pa_4.2.2 d3_90 93 rfl ?_
        intro T X e_4
        refine o_dup_x1 C X d3_93 94 rfl rfl rfl ?_
        refine o_iconst C X d3_94 95 rfl (1 : Int32) (by decide) ?_
        refine o_iadd C X d3_95 96 rfl ?_
        refine o_putF C X hZ hown (hw _ (List.mem_of_getElem? (i := 19) rfl)) Via.refl e_4 Pa_4.2.2 Pa_4.1 (Or.inl (hw _ (List.mem_of_getElem? (i := 20) rfl))) (hw _ (List.mem_of_getElem? (i := 3) rfl)) (ty := .int) (by decide) rfl rfl d3_96 99 rfl N0 ge_a ?_
        intro T h_5 locs_5 X e_5 W_5 N0
        have Pa_5 := Pa_4.wr1 hw W_5
        have Ar_5 := Ar_4.other W_5 (Ne.symm ne)
        have Ar3_5 := Ar3_4.other W_5 (Ne.symm ne_a_r3)
        have Exr_5 := Exr_4.wr W_5
        have Exr3_5 := Exr3_4.wr W_5
        have K_5 := K_4.wr W_5 (Or.inl (by simp))
        have Z_5 : n0 ≤ h_5.size := by rw [W_5.size]; exact Z_4
        refine o_iloadN C X d3_99 100 rfl rfl ?_
        refine o_iastore C X hZ e_5 Ar3_5 (8 + 1) (own_add hk rfl (by omega) (by decide)) (by omega) d3_100 101 rfl N0 ge_r3 ?_
        intro T h_6 locs_6 X e_6 W_6 N0 Ar3_6
        have Pa_6 := Pa_5.other W_6 ne_a_r3
        have Ar_6 := Ar_5.other W_6 ne_r_r3
        have Exr_6 := Exr_5.wr W_6
        have Exr3_6 := Exr3_5.wr W_6
        have Z_6 : n0 ≤ h_6.size := by rw [W_6.size]; exact Z_5
        have K_6 := K_5.wr W_6 (Or.inr sz_1)
        refine o_aloadN C X d3_101 102 rfl rfl rfl ?_
        exact o_retA C X hret rfl hlk d3_102 (by subst e_6; exact ⟨r3, 16, 8 + 2, _, _, rfl, N0, K_6, ge_r3, ne_a_r3, Pa_6, (own_add (j := 8 + 1) (k := 1) (own_add (j := 8) (k := 1) hk rfl (by omega) (by decide)) rfl (by omega) (by decide)), Ar3_6, Exr3_6, (Or.inr rfl), by omega, Or.inr ⟨fun q => t0 q.2, rfl, fun j hj => by (try dsimp only); rw [if_neg (by omega), if_neg (by omega), hg_1 j (by omega) (by omega)], by (try dsimp only); rw [if_neg (by omega), if_pos rfl], by (try dsimp only); rw [if_pos rfl]⟩⟩) (by decide) (by decide)
      · skip
        refine o_icmpY C X d3_47 67 (by decide) (by decide) (feq gr).2 ?_
        refine o_aloadN C X d3_67 68 rfl rfl rfl ?_
        refine o_getF C X hZ hown (hw _ (List.mem_of_getElem? (i := 12) rfl)) Via.refl e0 P.2.1 d3_68 71 rfl ?_
        intro T X e0
        refine o_aloadN C X d3_71 72 rfl rfl rfl ?_
        refine o_dup C X d3_72 73 rfl rfl ?_
        refine o_getF C X hZ hown (hw _ (List.mem_of_getElem? (i := 19) rfl)) Via.refl e0 P.2.2 d3_73 76 rfl ?_
        intro T X e0
        refine o_dup_x1 C X d3_76 77 rfl rfl rfl ?_
        refine o_iconst C X d3_77 78 rfl (1 : Int32) (by decide) ?_
        refine o_iadd C X d3_78 79 rfl ?_
        refine o_putF C X hZ hown (hw _ (List.mem_of_getElem? (i := 19) rfl)) Via.refl e0 P.2.2 P.1 (Or.inl (hw _ (List.mem_of_getElem? (i := 20) rfl))) (hw _ (List.mem_of_getElem? (i := 3) rfl)) (ty := .int) (by decide) rfl rfl d3_79 82 rfl N0 ge_a ?_
        intro T h_1 locs_1 X e_1 W_1 N0
        have Pa_1 := P.wr1 hw W_1
        have Ar_1 := A.other W_1 (Ne.symm ne)
        have Exr_1 := Ex.wr W_1
        have K_1 := (Keep.refl h0 [a, r]).wr W_1 (Or.inl (by simp))
        have Z_1 : n0 ≤ h_1.size := by rw [W_1.size]; exact Z0
        refine o_iloadN C X d3_82 83 rfl rfl ?_
        have hlt : n + 2 ≤ cap := by
          have : n ≠ cap := fun q => gr (by rw [own_of hk, q])
          omega
        refine o_iastore C X hZ e_1 Ar_1 (n) hk (by omega) d3_83 84 rfl N0 ge_r ?_
        intro T h_2 locs_2 X e_2 W_2 N0 Ar_2
        have Pa_2 := Pa_1.other W_2 ne
        have Exr_2 := Exr_1.wr W_2
        have Z_2 : n0 ≤ h_2.size := by rw [W_2.size]; exact Z_1
        have K_2 := K_1.wr W_2 (Or.inl (by simp))
        refine o_aloadN C X d3_84 85 rfl rfl rfl ?_
        refine o_getF C X hZ hown (hw _ (List.mem_of_getElem? (i := 12) rfl)) Via.refl e_2 Pa_2.2.1 d3_85 88 rfl ?_
        intro T X e_2
        refine o_aloadN C X d3_88 89 rfl rfl rfl ?_
        refine o_dup C X d3_89 90 rfl rfl ?_
        refine o_getF C X hZ hown (hw _ (List.mem_of_getElem? (i := 19) rfl)) Via.refl e_2 Pa_2.2.2 d3_90 93 rfl ?_
        intro T X e_2
        refine o_dup_x1 C X d3_93 94 rfl rfl rfl ?_
        refine o_iconst C X d3_94 95 rfl (1 : Int32) (by decide) ?_
        refine o_iadd C X d3_95 96 rfl ?_
        refine o_putF C X hZ hown (hw _ (List.mem_of_getElem? (i := 19) rfl)) Via.refl e_2 Pa_2.2.2 Pa_2.1 (Or.inl (hw _ (List.mem_of_getElem? (i := 20) rfl))) (hw _ (List.mem_of_getElem? (i := 3) rfl)) (ty := .int) (by decide) rfl rfl d3_96 99 rfl N0 ge_a ?_
        intro T h_3 locs_3 X e_3 W_3 N0
        have Pa_3 := Pa_2.wr1 hw W_3
        have Ar_3 := Ar_2.other W_3 (Ne.symm ne)
        have Exr_3 := Exr_2.wr W_3
        have K_3 := K_2.wr W_3 (Or.inl (by simp))
        have Z_3 : n0 ≤ h_3.size := by rw [W_3.size]; exact Z_2
        refine o_iloadN C X d3_99 100 rfl rfl ?_
        refine o_iastore C X hZ e_3 Ar_3 (n + 1) (own_add hk rfl (by omega) (by decide)) (by omega) d3_100 101 rfl N0 ge_r ?_
        intro T h_4 locs_4 X e_4 W_4 N0 Ar_4
        have Pa_4 := Pa_3.other W_4 ne
        have Exr_4 := Exr_3.wr W_4
        have Z_4 : n0 ≤ h_4.size := by rw [W_4.size]; exact Z_3
        have K_4 := K_3.wr W_4 (Or.inl (by simp))
        refine o_aloadN C X d3_101 102 rfl rfl rfl ?_
        exact o_retA C X hret rfl hlk d3_102 (by subst e_4; exact ⟨r, cap, n + 2, _, _, rfl, N0, K_4, ge_r, ne, Pa_4, (own_add (j := n + 1) (k := 1) (own_add (j := n) (k := 1) hk rfl (by omega) (by decide)) rfl (by omega) (by decide)), Ar_4, Exr_4, hcap, by omega, Or.inr ⟨fun q => t0 q.2, rfl, fun j hj => by (try dsimp only); rw [if_neg (by omega), if_neg (by omega)], by (try dsimp only); rw [if_neg (by omega), if_pos rfl], by (try dsimp only); rw [if_pos rfl]⟩⟩) (by decide) (by decide)
  · skip
    refine o_ifY C X d3_4 38 (by decide) (by decide) ((if0 _ _).trans (flt c0).2.2.2) ?_
    refine o_aloadN C X d3_38 39 rfl rfl rfl ?_
    refine o_getF C X hZ hown (hw _ (List.mem_of_getElem? (i := 19) rfl)) Via.refl e0 P.2.2 d3_39 42 rfl ?_
    intro T X e0
    refine o_aloadN C X d3_42 43 rfl rfl rfl ?_
    refine o_getF C X hZ hown (hw _ (List.mem_of_getElem? (i := 12) rfl)) Via.refl e0 P.2.1 d3_43 46 rfl ?_
    intro T X e0
    refine o_arraylength C X hZ e0 A (Int32.ofNat cap) rfl d3_46 47 rfl ?_
    by_cases gr : k0 = (Int32.ofNat cap)
    · skip
      refine o_icmpN C X d3_47 50 rfl (teq gr).2 ?_
      refine o_aloadN C X d3_50 51 rfl rfl rfl ?_
      refine o_aloadN C X d3_51 52 rfl rfl rfl ?_
      refine o_getF C X hZ hown (hw _ (List.mem_of_getElem? (i := 12) rfl)) Via.refl e0 P.2.1 d3_52 55 rfl ?_
      intro T X e0
      refine o_iconst C X d3_55 56 rfl (2 : Int32) (by decide) ?_
      refine o_aloadN C X d3_56 57 rfl rfl rfl ?_
      refine o_getF C X hZ hown (hw _ (List.mem_of_getElem? (i := 19) rfl)) Via.refl e0 P.2.2 d3_57 60 rfl ?_
      intro T X e0
      refine o_imul C X d3_60 61 rfl ?_
      obtain rfl : n = cap := by have := own_to (show cap < 1000 by omega); rw [← gr] at this; omega
      obtain rfl : n = 8 := by omega
      refine o_callS C X hZ (by rw [hml]; rfl) (own := "com/example/scanloom/scanloom/lexer/CodePointSet$Builder") (y := (⟨"java/util/Arrays", "copyOf", "([II)[I"⟩ : MethodName)) hown (hw _ (List.mem_of_getElem? (i := 29) rfl)) (hw _ (List.mem_of_getElem? (i := 30) rfl)) (hw _ (List.mem_of_getElem? (i := 31) rfl)) (hw _ (List.mem_of_getElem? (i := 32) rfl)) (by decide) (asL := [(.ref r), (.int ((2 : Int32) * k0))]) (rm5 l Z a0 hw r ((2 : Int32) * k0) h0 8 16 n0 f (own_mul2 hk (by omega)) (by decide) (by decide) Z0 A Ex) e0 pd_1 rfl rfl 1 (Nat.le_of_eq rfl) (by decide) (by decide) (by decide) (by decide) d3_61 64 rfl ?_
      rintro T h_1 _ L_1 X e_1 ⟨r3, g_1, rfl, N_1, K_1, ge_r3, sz_1, A_1, Ex_1, hg_1⟩
      have N0 := Fr.app N0 N_1
      have ne_a_r3 : a ≠ r3 := Nat.ne_of_lt (Nat.lt_of_lt_of_le P.1.lt sz_1)
      have ne_r_r3 : r ≠ r3 := Nat.ne_of_lt (Nat.lt_of_lt_of_le A.lt sz_1)
      have Pa_1 := P.keep K_1 nin0
      have Ar_1 := A.keep K_1 nin0
      have Exr_1 := Ex.keep K_1
      have Kx_1 : Keep h0 h_1 [a, r] := (Keep.refl h0 [a, r]).trans K_1 (by simp)
      have Z_1 : n0 ≤ h_1.size := Nat.le_trans Z0 K_1.1
      refine o_putF C X hZ hown (hw _ (List.mem_of_getElem? (i := 12) rfl)) Via.refl e_1 Pa_1.2.1 Pa_1.1 (Or.inl (hw _ (List.mem_of_getElem? (i := 13) rfl))) (hw _ (List.mem_of_getElem? (i := 3) rfl)) (ty := (.array .int)) (by decide) rfl rfl d3_64 67 rfl N0 ge_a ?_
      intro T h_2 locs_2 X e_2 W_2 N0
      have Pa_2 := Pa_1.wr0 hw W_2
      have Ar_2 := Ar_1.other W_2 (Ne.symm ne)
      have Ar3_2 := A_1.other W_2 (Ne.symm ne_a_r3)
      have Exr_2 := Exr_1.wr W_2
      have Exr3_2 := Ex_1.wr W_2
      have K_2 := Kx_1.wr W_2 (Or.inl (by simp))
      have Z_2 : n0 ≤ h_2.size := by rw [W_2.size]; exact Z_1
      refine o_aloadN C X d3_67 68 rfl rfl rfl ?_
      refine o_getF C X hZ hown (hw _ (List.mem_of_getElem? (i := 12) rfl)) Via.refl e_2 Pa_2.2.1 d3_68 71 rfl ?_
      intro T X e_2
      refine o_aloadN C X d3_71 72 rfl rfl rfl ?_
      refine o_dup C X d3_72 73 rfl rfl ?_
      refine o_getF C X hZ hown (hw _ (List.mem_of_getElem? (i := 19) rfl)) Via.refl e_2 Pa_2.2.2 d3_73 76 rfl ?_
      intro T X e_2
      refine o_dup_x1 C X d3_76 77 rfl rfl rfl ?_
      refine o_iconst C X d3_77 78 rfl (1 : Int32) (by decide) ?_
      refine o_iadd C X d3_78 79 rfl ?_
      refine o_putF C X hZ hown (hw _ (List.mem_of_getElem? (i := 19) rfl)) Via.refl e_2 Pa_2.2.2 Pa_2.1 (Or.inl (hw _ (List.mem_of_getElem? (i := 20) rfl))) (hw _ (List.mem_of_getElem? (i := 3) rfl)) (ty := .int) (by decide) rfl rfl d3_79 82 rfl N0 ge_a ?_
      intro T h_3 locs_3 X e_3 W_3 N0
      have Pa_3 := Pa_2.wr1 hw W_3
      have Ar_3 := Ar_2.other W_3 (Ne.symm ne)
      have Ar3_3 := Ar3_2.other W_3 (Ne.symm ne_a_r3)
      have Exr_3 := Exr_2.wr W_3
      have Exr3_3 := Exr3_2.wr W_3
      have K_3 := K_2.wr W_3 (Or.inl (by simp))
      have Z_3 : n0 ≤ h_3.size := by rw [W_3.size]; exact Z_2
      refine o_iloadN C X d3_82 83 rfl rfl ?_
      refine o_iastore C X hZ e_3 Ar3_3 (8) hk (by omega) d3_83 84 rfl N0 ge_r3 ?_
      intro T h_4 locs_4 X e_4 W_4 N0 Ar3_4
      have Pa_4 := Pa_3.other W_4 ne_a_r3
      have Ar_4 := Ar_3.other W_4 ne_r_r3
      have Exr_4 := Exr_3.wr W_4
      have Exr3_4 := Exr3_3.wr W_4
      have Z_4 : n0 ≤ h_4.size := by rw [W_4.size]; exact Z_3
      have K_4 := K_3.wr W_4 (Or.inr sz_1)
      refine o_aloadN C X d3_84 85 rfl rfl rfl ?_
      refine o_getF C X hZ hown (hw _ (List.mem_of_getElem? (i := 12) rfl)) Via.refl e_4 Pa_4.2.1 d3_85 88 rfl ?_
      intro T X e_4
      refine o_aloadN C X d3_88 89 rfl rfl rfl ?_
      refine o_dup C X d3_89 90 rfl rfl ?_
      refine o_getF C X hZ hown (hw _ (List.mem_of_getElem? (i := 19) rfl)) Via.refl e_4 Pa_4.2.2 d3_90 93 rfl ?_
      intro T X e_4
      refine o_dup_x1 C X d3_93 94 rfl rfl rfl ?_
      refine o_iconst C X d3_94 95 rfl (1 : Int32) (by decide) ?_
      refine o_iadd C X d3_95 96 rfl ?_
      refine o_putF C X hZ hown (hw _ (List.mem_of_getElem? (i := 19) rfl)) Via.refl e_4 Pa_4.2.2 Pa_4.1 (Or.inl (hw _ (List.mem_of_getElem? (i := 20) rfl))) (hw _ (List.mem_of_getElem? (i := 3) rfl)) (ty := .int) (by decide) rfl rfl d3_96 99 rfl N0 ge_a ?_
      intro T h_5 locs_5 X e_5 W_5 N0
      have Pa_5 := Pa_4.wr1 hw W_5
      have Ar_5 := Ar_4.other W_5 (Ne.symm ne)
      have Ar3_5 := Ar3_4.other W_5 (Ne.symm ne_a_r3)
      have Exr_5 := Exr_4.wr W_5
      have Exr3_5 := Exr3_4.wr W_5
      have K_5 := K_4.wr W_5 (Or.inl (by simp))
      have Z_5 : n0 ≤ h_5.size := by rw [W_5.size]; exact Z_4
      refine o_iloadN C X d3_99 100 rfl rfl ?_
      refine o_iastore C X hZ e_5 Ar3_5 (8 + 1) (own_add hk rfl (by omega) (by decide)) (by omega) d3_100 101 rfl N0 ge_r3 ?_
      intro T h_6 locs_6 X e_6 W_6 N0 Ar3_6
      have Pa_6 := Pa_5.other W_6 ne_a_r3
      have Ar_6 := Ar_5.other W_6 ne_r_r3
      have Exr_6 := Exr_5.wr W_6
      have Exr3_6 := Exr3_5.wr W_6
      have Z_6 : n0 ≤ h_6.size := by rw [W_6.size]; exact Z_5
      have K_6 := K_5.wr W_6 (Or.inr sz_1)
      refine o_aloadN C X d3_101 102 rfl rfl rfl ?_
      exact o_retA C X hret rfl hlk d3_102 (by subst e_6; exact ⟨r3, 16, 8 + 2, _, _, rfl, N0, K_6, ge_r3, ne_a_r3, Pa_6, (own_add (j := 8 + 1) (k := 1) (own_add (j := 8) (k := 1) hk rfl (by omega) (by decide)) rfl (by omega) (by decide)), Ar3_6, Exr3_6, (Or.inr rfl), by omega, Or.inr ⟨fun q => c0 (by rw [Int32.lt_iff_toInt_lt, hk, show (0 : Int32).toInt = 0 from rfl]; omega), rfl, fun j hj => by (try dsimp only); rw [if_neg (by omega), if_neg (by omega), hg_1 j (by omega) (by omega)], by (try dsimp only); rw [if_neg (by omega), if_pos rfl], by (try dsimp only); rw [if_pos rfl]⟩⟩) (by decide) (by decide)
    · skip
      refine o_icmpY C X d3_47 67 (by decide) (by decide) (feq gr).2 ?_
      refine o_aloadN C X d3_67 68 rfl rfl rfl ?_
      refine o_getF C X hZ hown (hw _ (List.mem_of_getElem? (i := 12) rfl)) Via.refl e0 P.2.1 d3_68 71 rfl ?_
      intro T X e0
      refine o_aloadN C X d3_71 72 rfl rfl rfl ?_
      refine o_dup C X d3_72 73 rfl rfl ?_
      refine o_getF C X hZ hown (hw _ (List.mem_of_getElem? (i := 19) rfl)) Via.refl e0 P.2.2 d3_73 76 rfl ?_
      intro T X e0
      refine o_dup_x1 C X d3_76 77 rfl rfl rfl ?_
      refine o_iconst C X d3_77 78 rfl (1 : Int32) (by decide) ?_
      refine o_iadd C X d3_78 79 rfl ?_
      refine o_putF C X hZ hown (hw _ (List.mem_of_getElem? (i := 19) rfl)) Via.refl e0 P.2.2 P.1 (Or.inl (hw _ (List.mem_of_getElem? (i := 20) rfl))) (hw _ (List.mem_of_getElem? (i := 3) rfl)) (ty := .int) (by decide) rfl rfl d3_79 82 rfl N0 ge_a ?_
      intro T h_1 locs_1 X e_1 W_1 N0
      have Pa_1 := P.wr1 hw W_1
      have Ar_1 := A.other W_1 (Ne.symm ne)
      have Exr_1 := Ex.wr W_1
      have K_1 := (Keep.refl h0 [a, r]).wr W_1 (Or.inl (by simp))
      have Z_1 : n0 ≤ h_1.size := by rw [W_1.size]; exact Z0
      refine o_iloadN C X d3_82 83 rfl rfl ?_
      have hlt : n + 2 ≤ cap := by
        have : n ≠ cap := fun q => gr (by rw [own_of hk, q])
        omega
      refine o_iastore C X hZ e_1 Ar_1 (n) hk (by omega) d3_83 84 rfl N0 ge_r ?_
      intro T h_2 locs_2 X e_2 W_2 N0 Ar_2
      have Pa_2 := Pa_1.other W_2 ne
      have Exr_2 := Exr_1.wr W_2
      have Z_2 : n0 ≤ h_2.size := by rw [W_2.size]; exact Z_1
      have K_2 := K_1.wr W_2 (Or.inl (by simp))
      refine o_aloadN C X d3_84 85 rfl rfl rfl ?_
      refine o_getF C X hZ hown (hw _ (List.mem_of_getElem? (i := 12) rfl)) Via.refl e_2 Pa_2.2.1 d3_85 88 rfl ?_
      intro T X e_2
      refine o_aloadN C X d3_88 89 rfl rfl rfl ?_
      refine o_dup C X d3_89 90 rfl rfl ?_
      refine o_getF C X hZ hown (hw _ (List.mem_of_getElem? (i := 19) rfl)) Via.refl e_2 Pa_2.2.2 d3_90 93 rfl ?_
      intro T X e_2
      refine o_dup_x1 C X d3_93 94 rfl rfl rfl ?_
      refine o_iconst C X d3_94 95 rfl (1 : Int32) (by decide) ?_
      refine o_iadd C X d3_95 96 rfl ?_
      refine o_putF C X hZ hown (hw _ (List.mem_of_getElem? (i := 19) rfl)) Via.refl e_2 Pa_2.2.2 Pa_2.1 (Or.inl (hw _ (List.mem_of_getElem? (i := 20) rfl))) (hw _ (List.mem_of_getElem? (i := 3) rfl)) (ty := .int) (by decide) rfl rfl d3_96 99 rfl N0 ge_a ?_
      intro T h_3 locs_3 X e_3 W_3 N0
      have Pa_3 := Pa_2.wr1 hw W_3
      have Ar_3 := Ar_2.other W_3 (Ne.symm ne)
      have Exr_3 := Exr_2.wr W_3
      have K_3 := K_2.wr W_3 (Or.inl (by simp))
      have Z_3 : n0 ≤ h_3.size := by rw [W_3.size]; exact Z_2
      refine o_iloadN C X d3_99 100 rfl rfl ?_
      refine o_iastore C X hZ e_3 Ar_3 (n + 1) (own_add hk rfl (by omega) (by decide)) (by omega) d3_100 101 rfl N0 ge_r ?_
      intro T h_4 locs_4 X e_4 W_4 N0 Ar_4
      have Pa_4 := Pa_3.other W_4 ne
      have Exr_4 := Exr_3.wr W_4
      have Z_4 : n0 ≤ h_4.size := by rw [W_4.size]; exact Z_3
      have K_4 := K_3.wr W_4 (Or.inl (by simp))
      refine o_aloadN C X d3_101 102 rfl rfl rfl ?_
      exact o_retA C X hret rfl hlk d3_102 (by subst e_4; exact ⟨r, cap, n + 2, _, _, rfl, N0, K_4, ge_r, ne, Pa_4, (own_add (j := n + 1) (k := 1) (own_add (j := n) (k := 1) hk rfl (by omega) (by decide)) rfl (by omega) (by decide)), Ar_4, Exr_4, hcap, by omega, Or.inr ⟨fun q => c0 (by rw [Int32.lt_iff_toInt_lt, hk, show (0 : Int32).toInt = 0 from rfl]; omega), rfl, fun j hj => by (try dsimp only); rw [if_neg (by omega), if_neg (by omega)], by (try dsimp only); rw [if_neg (by omega), if_pos rfl], by (try dsimp only); rw [if_pos rfl]⟩⟩) (by decide) (by decide)
theorem d7_0 : decode prog_24_method_1_code 0 = .ok (.aload_n 0, 1) := by decide +kernel
theorem d7_1 : decode prog_24_method_1_code 1 = .ok (.invokespecial 3, 3) := by decide +kernel
theorem d7_4 : decode prog_24_method_1_code 4 = .ok (.aload_n 0, 1) := by decide +kernel
theorem d7_5 : decode prog_24_method_1_code 5 = .ok (.aload_n 1, 1) := by decide +kernel
theorem d7_6 : decode prog_24_method_1_code 6 = .ok (.putfield 9, 3) := by decide +kernel
theorem d7_9 : decode prog_24_method_1_code 9 = .ok (.return_, 1) := by decide +kernel
theorem pn_7 : plainFor (⟨"com/example/scanloom/scanloom/lexer/CodePointSet", "<init>", "([I)V"⟩ : MethodName) = true := by first | exact plainFor_of_name (by first | (simp [plainName, overriddenIn]; done) | decide +kernel) | decide +kernel
theorem ef_7 (m : MethodId) (a : Addr) (r : Addr) : entryFrame m #[(.ref a), (.ref r)] 2 = (mkF m 0 #[.val (.ref a), .val (.ref r)] []) := by first | (simp [entryFrame, mkF, argsToLocals, Value.category]; done) | rfl
set_option maxRecDepth 65536 in
set_option maxHeartbeats 40000000 in
theorem rm7 (l : Launch) (Z : State) (a0 : Array Value) (hw : ∀ d ∈ tables_1, d.before a0 Z = true) (a r : Addr) (h0 : Heap) (n0 : Nat) (ge_a : n0 ≤ a) (P : CS Z h0 a .null) : Con l Z (⟨"com/example/scanloom/scanloom/lexer/CodePointSet", "<init>", "([I)V"⟩ : MethodName) prog_24_method_1_code 2 none ({ frames := 1, cells := 0, slots := 0, locals := 12 } : Room) 0 0 [] #[(.ref a), (.ref r)] h0 (fun v h L => v = none ∧ Fr n0 L ∧ Keep h0 h [a] ∧ CS Z h a (.ref r)) := by
  refine Con.of pn_7 ?_
  intro p e s m below meth c T C hZ hml hown hret hnm hlk X e0
  rw [ef_7]
  have N0 := Fr.nil n0
  refine o_aloadN C X d7_0 1 rfl rfl rfl ?_
  refine o_initO C X hZ (by rw [hml]; rfl) hown (hw _ (List.mem_of_getElem? (i := 44) rfl)) (hw _ (List.mem_of_getElem? (i := 9) rfl)) (hw _ (List.mem_of_getElem? (i := 10) rfl)) e0 0 (Nat.le_of_eq rfl) (by decide) (by decide) d7_1 4 rfl ?_
  intro T X e0
  refine o_aloadN C X d7_4 5 rfl rfl rfl ?_
  refine o_aloadN C X d7_5 6 rfl rfl rfl ?_
  refine o_putF C X hZ hown (hw _ (List.mem_of_getElem? (i := 45) rfl)) Via.refl e0 P.2 P.1 (Or.inr ⟨(hw _ (List.mem_of_getElem? (i := 46) rfl)), rfl, hnm⟩) (hw _ (List.mem_of_getElem? (i := 27) rfl)) (ty := (.array .int)) (by decide) rfl rfl d7_6 9 rfl N0 ge_a ?_
  intro T h_1 locs_1 X e_1 W_1 N0
  have Pa_1 := P.wr0 hw W_1
  have K_1 := (Keep.refl h0 [a]).wr W_1 (Or.inl (by simp))
  exact o_ret C X hret hlk d7_9 (by subst e_1; exact ⟨rfl, N0, K_1, Pa_1⟩) (by decide) (by decide)
theorem pd_2 : parseMethodDescriptor "([I)V" = some ⟨[(.array .int)], none⟩ := by decide +kernel
theorem d4_0 : decode prog_25_method_3_code 0 = .ok (.new 23, 3) := by decide +kernel
theorem d4_3 : decode prog_25_method_3_code 3 = .ok (.dup, 1) := by decide +kernel
theorem d4_4 : decode prog_25_method_3_code 4 = .ok (.aload_n 0, 1) := by decide +kernel
theorem d4_5 : decode prog_25_method_3_code 5 = .ok (.getfield 7, 3) := by decide +kernel
theorem d4_8 : decode prog_25_method_3_code 8 = .ok (.aload_n 0, 1) := by decide +kernel
theorem d4_9 : decode prog_25_method_3_code 9 = .ok (.getfield 13, 3) := by decide +kernel
theorem d4_12 : decode prog_25_method_3_code 12 = .ok (.invokestatic 17, 3) := by decide +kernel
theorem d4_15 : decode prog_25_method_3_code 15 = .ok (.invokespecial 25, 3) := by decide +kernel
theorem d4_18 : decode prog_25_method_3_code 18 = .ok (.areturn, 1) := by decide +kernel
theorem pn_4 : plainFor (⟨"com/example/scanloom/scanloom/lexer/CodePointSet$Builder", "build", "()Lcom/example/scanloom/scanloom/lexer/CodePointSet;"⟩ : MethodName) = true := by first | exact plainFor_of_name (by first | (simp [plainName, overriddenIn]; done) | decide +kernel) | decide +kernel
theorem ef_4 (m : MethodId) (a : Addr) : entryFrame m #[(.ref a)] 1 = (mkF m 0 #[.val (.ref a)] []) := by first | (simp [entryFrame, mkF, argsToLocals, Value.category]; done) | rfl
set_option maxRecDepth 65536 in
set_option maxHeartbeats 40000000 in
theorem rm4 (l : Launch) (Z : State) (a0 : Array Value) (hw : ∀ d ∈ tables_1, d.before a0 Z = true) (a r : Addr) (k0 : Int32) (f : Nat → Int32) (n cap : Nat) (h0 : Heap) (n0 : Nat) (Z0 : n0 ≤ h0.size) (hk : k0.toInt = n) (hcap : cap ≤ 16) (hn : n ≤ cap) (P : BD Z h0 a (.ref r) (.int k0)) (A : AI Z h0 r .int cap f) (Ex : Exa Z h0 r "[I") : Con l Z (⟨"com/example/scanloom/scanloom/lexer/CodePointSet$Builder", "build", "()Lcom/example/scanloom/scanloom/lexer/CodePointSet;"⟩ : MethodName) prog_25_method_3_code 1 (some (.object "com/example/scanloom/scanloom/lexer/CodePointSet")) ({ frames := 2, cells := 2, slots := 17, locals := 70 } : Room) 2 17 [] #[(.ref a)] h0 (fun v h L => ∃ s2 r2 g, v = some (.ref s2) ∧ Fr n0 L ∧ CS Z h s2 (.ref r2) ∧ AI Z h r2 .int n g ∧ ∀ j, j < n → g j = f j) := by
  refine Con.of pn_4 ?_
  intro p e s m below meth c T C hZ hml hown hret hnm hlk X e0
  rw [ef_4]
  have N0 := Fr.nil n0
  refine o_new C X hZ hown (hw _ (List.mem_of_getElem? (i := 26) rfl)) (hw _ (List.mem_of_getElem? (i := 27) rfl)) (hw _ (List.mem_of_getElem? (i := 28) rfl)) e0 d4_0 (by decide) (by decide) 3 rfl ?_
  intro T h_1 s2 g_s2 X e_1 E_1 A_1 D_1
  have ne_a_s2 : a ≠ s2 := by rw [g_s2]; exact Nat.ne_of_lt P.1.lt
  have ne_r_s2 : r ≠ s2 := by rw [g_s2]; exact Nat.ne_of_lt A.lt
  have ge_s2 : n0 ≤ s2 := by rw [g_s2]; exact Z0
  have Z_1 : n0 ≤ h_1.size := Nat.le_trans Z0 E_1.1
  have Pa_1 := P.ext E_1
  have Ar_1 := A.ext E_1
  have Exr_1 := Ex.ext E_1
  have Ps2_1 : CS Z h_1 s2 .null := ⟨A_1, D_1 (Or.inr (hw _ (List.mem_of_getElem? (i := 46) rfl))) (ty := (.array .int)) (by decide)⟩
  refine o_dup C X d4_3 4 rfl rfl ?_
  refine o_aloadN C X d4_4 5 rfl rfl rfl ?_
  refine o_getF C X hZ hown (hw _ (List.mem_of_getElem? (i := 12) rfl)) Via.refl e_1 Pa_1.2.1 d4_5 8 rfl ?_
  intro T X e_1
  refine o_aloadN C X d4_8 9 rfl rfl rfl ?_
  refine o_getF C X hZ hown (hw _ (List.mem_of_getElem? (i := 19) rfl)) Via.refl e_1 Pa_1.2.2 d4_9 12 rfl ?_
  intro T X e_1
  refine o_callS C X hZ (by rw [hml]; rfl) (own := "com/example/scanloom/scanloom/lexer/CodePointSet$Builder") (y := (⟨"java/util/Arrays", "copyOf", "([II)[I"⟩ : MethodName)) hown (hw _ (List.mem_of_getElem? (i := 29) rfl)) (hw _ (List.mem_of_getElem? (i := 30) rfl)) (hw _ (List.mem_of_getElem? (i := 31) rfl)) (hw _ (List.mem_of_getElem? (i := 32) rfl)) (by decide) (asL := [(.ref r), (.int k0)]) (rm5 l Z a0 hw r k0 h_1 cap n n0 f hk hcap (by omega) Z_1 Ar_1 Exr_1) e_1 pd_1 rfl rfl 2 (Nat.le_of_eq rfl) (by decide) (by decide) (by decide) (by decide) d4_12 15 rfl ?_
  rintro T h_2 _ L_2 X e_2 ⟨r2, g_2, rfl, N_2, K_2, ge_r2, sz_2, A_2, Ex_2, hg_2⟩
  have N0 := Fr.app N0 N_2
  have ne_s2_r2 : s2 ≠ r2 := Nat.ne_of_lt (Nat.lt_of_lt_of_le Ps2_1.1.lt sz_2)
  have Pa_2 := Pa_1.keep K_2 nin0
  have Ps2_2 := Ps2_1.keep K_2 nin0
  have Ar_2 := Ar_1.keep K_2 nin0
  refine o_callN C X hZ (by rw [hml]; rfl) (own := "com/example/scanloom/scanloom/lexer/CodePointSet$Builder") (y := (⟨"com/example/scanloom/scanloom/lexer/CodePointSet", "<init>", "([I)V"⟩ : MethodName)) hown (host := "com/example/scanloom/scanloom/lexer/CodePointSet") rfl (hw _ (List.mem_of_getElem? (i := 41) rfl)) (hw _ (List.mem_of_getElem? (i := 42) rfl)) (hw _ (List.mem_of_getElem? (i := 28) rfl)) (hw _ (List.mem_of_getElem? (i := 43) rfl)) (by decide) (asL := [(.ref r2)]) (a := s2) (rm7 l Z a0 hw s2 r2 h_2 n0 ge_s2 Ps2_2) e_2 pd_2 rfl rfl 1 (Nat.le_of_eq rfl) (by decide) (by decide) (by decide) (by decide) d4_15 18 rfl ?_
  rintro T h_3 _ L_3 X e_3 ⟨rfl, N_3, K_3, Ps2_3⟩
  have N0 := Fr.app N0 N_3
  have A9 := A_2.keep K_3 (ninS ne_s2_r2.symm nin0)
  exact o_retA C X hret rfl hlk d4_18 (by subst e_3; exact ⟨s2, r2, g_2, rfl, N0, Ps2_3, A9, fun j hj => hg_2 j (by omega) hj⟩) (by decide) (by decide)
theorem d8_0 : decode prog_24_method_9_code 0 = .ok (.aload_n 0, 1) := by decide +kernel
theorem d8_1 : decode prog_24_method_9_code 1 = .ok (.getfield 9, 3) := by decide +kernel
theorem d8_4 : decode prog_24_method_9_code 4 = .ok (.areturn, 1) := by decide +kernel
theorem pn_8 : plainFor (⟨"com/example/scanloom/scanloom/lexer/CodePointSet", "ranges", "()[I"⟩ : MethodName) = true := by first | exact plainFor_of_name (by first | (simp [plainName, overriddenIn]; done) | decide +kernel) | decide +kernel
theorem ef_8 (m : MethodId) (a : Addr) : entryFrame m #[(.ref a)] 1 = (mkF m 0 #[.val (.ref a)] []) := by first | (simp [entryFrame, mkF, argsToLocals, Value.category]; done) | rfl
set_option maxRecDepth 65536 in
set_option maxHeartbeats 40000000 in
theorem rm8 (l : Launch) (Z : State) (a0 : Array Value) (hw : ∀ d ∈ tables_1, d.before a0 Z = true) (a r : Addr) (h0 : Heap) (P : CS Z h0 a (.ref r)) : Con l Z (⟨"com/example/scanloom/scanloom/lexer/CodePointSet", "ranges", "()[I"⟩ : MethodName) prog_24_method_9_code 1 (some (.array .int)) ({ frames := 0, cells := 0, slots := 0, locals := 0 } : Room) 0 0 [] #[(.ref a)] h0 (PQ (.ref r) h0) := by
  refine Con.of pn_8 ?_
  intro p e s m below meth c T C hZ hml hown hret hnm hlk X e0
  rw [ef_8]
  refine o_aloadN C X d8_0 1 rfl rfl rfl ?_
  refine o_getF C X hZ hown (hw _ (List.mem_of_getElem? (i := 45) rfl)) Via.refl e0 P.2 d8_1 4 rfl ?_
  intro T X e0
  exact o_retA C X hret rfl hlk d8_4 ⟨rfl, rfl, e0⟩ (Nat.le_refl _) (Nat.le_refl _)
theorem d10_0 : decode method_2_code 0 = .ok (.iload_n 1, 1) := by decide +kernel
theorem d10_1 : decode method_2_code 1 = .ok (.iload_n 0, 1) := by decide +kernel
theorem d10_2 : decode method_2_code 2 = .ok (.if_icmp .gt 12, 3) := by decide +kernel
theorem d10_5 : decode method_2_code 5 = .ok (.iload_n 0, 1) := by decide +kernel
theorem d10_6 : decode method_2_code 6 = .ok (.iload_n 2, 1) := by decide +kernel
theorem d10_7 : decode method_2_code 7 = .ok (.if_icmp .gt 7, 3) := by decide +kernel
theorem d10_10 : decode method_2_code 10 = .ok (.iconst 1, 1) := by decide +kernel
theorem d10_11 : decode method_2_code 11 = .ok (.goto 4, 3) := by decide +kernel
theorem d10_14 : decode method_2_code 14 = .ok (.iconst 0, 1) := by decide +kernel
theorem d10_15 : decode method_2_code 15 = .ok (.ireturn, 1) := by decide +kernel
theorem pn_10 : plainFor (⟨"com/example/scanloom/scanloom/lexer/BuilderAddPinLaw", "in", "(III)Z"⟩ : MethodName) = true := by first | exact plainFor_of_name (by first | (simp [plainName, overriddenIn]; done) | decide +kernel) | decide +kernel
theorem ef_10 (m : MethodId) (u0 : Int32) (u1 : Int32) (u2 : Int32) : entryFrame m #[(.int u0), (.int u1), (.int u2)] 3 = (mkF m 0 #[.val (.int u0), .val (.int u1), .val (.int u2)] []) := by first | (simp [entryFrame, mkF, argsToLocals, Value.category]; done) | rfl
def FI (u0 : Int32) (u1 : Int32) (u2 : Int32) : Int32 := (if u0 < u1 then (0 : Int32) else (if u2 < u0 then (0 : Int32) else (1 : Int32)))
set_option maxRecDepth 65536 in
set_option maxHeartbeats 40000000 in
theorem rm10 (l : Launch) (Z : State) (a0 : Array Value) (hw : ∀ d ∈ tables_1, d.before a0 Z = true) (u0 : Int32) (u1 : Int32) (u2 : Int32) (h0 : Heap) : Con l Z (⟨"com/example/scanloom/scanloom/lexer/BuilderAddPinLaw", "in", "(III)Z"⟩ : MethodName) method_2_code 3 (some .boolean) ({ frames := 0, cells := 0, slots := 0, locals := 0 } : Room) 0 0 [] #[(.int u0), (.int u1), (.int u2)] h0 (PQ (.int (FI u0 u1 u2)) h0) := by
  refine Con.of pn_10 ?_
  intro p e s m below meth c T C hZ hml hown hret hnm hlk X e0
  rw [ef_10]
  refine o_iloadN C X d10_0 1 rfl rfl ?_
  refine o_iloadN C X d10_1 2 rfl rfl ?_
  by_cases q2 : u0 < u1
  · skip
    refine o_icmpY C X d10_2 14 (by decide) (by decide) (tlt q2).2.2.1 ?_
    refine o_iconst C X d10_14 15 rfl (0 : Int32) (by decide) ?_
    refine o_retN C X hret (by simp) hlk d10_15 ⟨congrArg some (congrArg _ (by rw [FI]; simp only [if_pos q2] <;> rfl)), rfl, e0⟩ (Nat.le_refl _) (Nat.le_refl _)
  · skip
    refine o_icmpN C X d10_2 5 rfl (flt q2).2.2.1 ?_
    refine o_iloadN C X d10_5 6 rfl rfl ?_
    refine o_iloadN C X d10_6 7 rfl rfl ?_
    by_cases q3 : u2 < u0
    · skip
      refine o_icmpY C X d10_7 14 (by decide) (by decide) (tlt q3).2.2.1 ?_
      refine o_iconst C X d10_14 15 rfl (0 : Int32) (by decide) ?_
      refine o_retN C X hret (by simp) hlk d10_15 ⟨congrArg some (congrArg _ (by rw [FI]; simp only [if_neg q2, if_pos q3] <;> rfl)), rfl, e0⟩ (Nat.le_refl _) (Nat.le_refl _)
    · skip
      refine o_icmpN C X d10_7 10 rfl (flt q3).2.2.1 ?_
      refine o_iconst C X d10_10 11 rfl (1 : Int32) (by decide) ?_
      refine o_goto C X d10_11 15 (by decide) (by decide) ?_
      refine o_retN C X hret (by simp) hlk d10_15 ⟨congrArg some (congrArg _ (by rw [FI]; simp only [if_neg q2, if_neg q3] <;> rfl)), rfl, e0⟩ (Nat.le_refl _) (Nat.le_refl _)
theorem d9_0 : decode method_3_code 0 = .ok (.iload_n 1, 1) := by decide +kernel
theorem d9_1 : decode method_3_code 1 = .ok (.aload_n 0, 1) := by decide +kernel
theorem d9_2 : decode method_3_code 2 = .ok (.arraylength, 1) := by decide +kernel
theorem d9_3 : decode method_3_code 3 = .ok (.if_icmp .lt 5, 3) := by decide +kernel
theorem d9_6 : decode method_3_code 6 = .ok (.iconst 1, 1) := by decide +kernel
theorem d9_7 : decode method_3_code 7 = .ok (.ireturn, 1) := by decide +kernel
theorem d9_8 : decode method_3_code 8 = .ok (.iload_n 1, 1) := by decide +kernel
theorem d9_9 : decode method_3_code 9 = .ok (.iconst 1, 1) := by decide +kernel
theorem d9_10 : decode method_3_code 10 = .ok (.iadd, 1) := by decide +kernel
theorem d9_11 : decode method_3_code 11 = .ok (.aload_n 0, 1) := by decide +kernel
theorem d9_12 : decode method_3_code 12 = .ok (.arraylength, 1) := by decide +kernel
theorem d9_13 : decode method_3_code 13 = .ok (.if_icmp .lt 5, 3) := by decide +kernel
theorem d9_16 : decode method_3_code 16 = .ok (.iconst 0, 1) := by decide +kernel
theorem d9_17 : decode method_3_code 17 = .ok (.ireturn, 1) := by decide +kernel
theorem d9_18 : decode method_3_code 18 = .ok (.aload_n 0, 1) := by decide +kernel
theorem d9_19 : decode method_3_code 19 = .ok (.iload_n 1, 1) := by decide +kernel
theorem d9_20 : decode method_3_code 20 = .ok (.iaload, 1) := by decide +kernel
theorem d9_21 : decode method_3_code 21 = .ok (.aload_n 0, 1) := by decide +kernel
theorem d9_22 : decode method_3_code 22 = .ok (.iload_n 1, 1) := by decide +kernel
theorem d9_23 : decode method_3_code 23 = .ok (.iconst 1, 1) := by decide +kernel
theorem d9_24 : decode method_3_code 24 = .ok (.iadd, 1) := by decide +kernel
theorem d9_25 : decode method_3_code 25 = .ok (.iaload, 1) := by decide +kernel
theorem d9_26 : decode method_3_code 26 = .ok (.if_icmp .le 5, 3) := by decide +kernel
theorem d9_29 : decode method_3_code 29 = .ok (.iconst 0, 1) := by decide +kernel
theorem d9_30 : decode method_3_code 30 = .ok (.ireturn, 1) := by decide +kernel
theorem d9_31 : decode method_3_code 31 = .ok (.iload_n 1, 1) := by decide +kernel
theorem d9_32 : decode method_3_code 32 = .ok (.iconst 2, 1) := by decide +kernel
theorem d9_33 : decode method_3_code 33 = .ok (.iadd, 1) := by decide +kernel
theorem d9_34 : decode method_3_code 34 = .ok (.aload_n 0, 1) := by decide +kernel
theorem d9_35 : decode method_3_code 35 = .ok (.arraylength, 1) := by decide +kernel
theorem d9_36 : decode method_3_code 36 = .ok (.if_icmp .ge 18, 3) := by decide +kernel
theorem d9_39 : decode method_3_code 39 = .ok (.aload_n 0, 1) := by decide +kernel
theorem d9_40 : decode method_3_code 40 = .ok (.iload_n 1, 1) := by decide +kernel
theorem d9_41 : decode method_3_code 41 = .ok (.iconst 1, 1) := by decide +kernel
theorem d9_42 : decode method_3_code 42 = .ok (.iadd, 1) := by decide +kernel
theorem d9_43 : decode method_3_code 43 = .ok (.iaload, 1) := by decide +kernel
theorem d9_44 : decode method_3_code 44 = .ok (.iconst 1, 1) := by decide +kernel
theorem d9_45 : decode method_3_code 45 = .ok (.iadd, 1) := by decide +kernel
theorem d9_46 : decode method_3_code 46 = .ok (.aload_n 0, 1) := by decide +kernel
theorem d9_47 : decode method_3_code 47 = .ok (.iload_n 1, 1) := by decide +kernel
theorem d9_48 : decode method_3_code 48 = .ok (.iconst 2, 1) := by decide +kernel
theorem d9_49 : decode method_3_code 49 = .ok (.iadd, 1) := by decide +kernel
theorem d9_50 : decode method_3_code 50 = .ok (.iaload, 1) := by decide +kernel
theorem d9_51 : decode method_3_code 51 = .ok (.if_icmp .ge 7, 3) := by decide +kernel
theorem d9_54 : decode method_3_code 54 = .ok (.iconst 1, 1) := by decide +kernel
theorem d9_55 : decode method_3_code 55 = .ok (.goto 4, 3) := by decide +kernel
theorem d9_58 : decode method_3_code 58 = .ok (.iconst 0, 1) := by decide +kernel
theorem d9_59 : decode method_3_code 59 = .ok (.ireturn, 1) := by decide +kernel
theorem pn_9 : plainFor (⟨"com/example/scanloom/scanloom/lexer/BuilderAddPinLaw", "ok", "([II)Z"⟩ : MethodName) = true := by first | exact plainFor_of_name (by first | (simp [plainName, overriddenIn]; done) | decide +kernel) | decide +kernel
theorem ef_9 (m : MethodId) (r : Addr) (i0 : Int32) : entryFrame m #[(.ref r), (.int i0)] 2 = (mkF m 0 #[.val (.ref r), .val (.int i0)] []) := by first | (simp [entryFrame, mkF, argsToLocals, Value.category]; done) | rfl
set_option maxRecDepth 65536 in
set_option maxHeartbeats 40000000 in
theorem rm9 (l : Launch) (Z : State) (a0 : Array Value) (hw : ∀ d ∈ tables_1, d.before a0 Z = true) (r : Addr) (i0 : Int32) (g : Nat → Int32) (n k : Nat) (h0 : Heap) (hi : i0.toInt = k) (hk : k ≤ 20) (hn : n ≤ 20) (hev : n % 2 = 0) (hke : k % 2 = 0) (hA : k + 1 < n → ¬ g (k + 1) < g k) (hB : k + 2 < n → g (k + 1) + 1 < g (k + 2)) (A : AI Z h0 r .int n g) : Con l Z (⟨"com/example/scanloom/scanloom/lexer/BuilderAddPinLaw", "ok", "([II)Z"⟩ : MethodName) method_3_code 2 (some .boolean) ({ frames := 0, cells := 0, slots := 0, locals := 0 } : Room) 0 0 [] #[(.ref r), (.int i0)] h0 (PQ (.int 1) h0) := by
  refine Con.of pn_9 ?_
  intro p e s m below meth c T C hZ hml hown hret hnm hlk X e0
  rw [ef_9]
  have hl : (Int32.ofNat n).toInt = n := own_to (by omega)
  have a1 := own_add hi (w := 1) (k := 1) rfl (by omega) (by decide)
  have a2 := own_add hi (w := 2) (k := 2) rfl (by omega) (by decide)
  refine o_iloadN C X d9_0 1 rfl rfl ?_
  refine o_aloadN C X d9_1 2 rfl rfl rfl ?_
  refine o_arraylength C X hZ e0 A (Int32.ofNat n) rfl d9_2 3 rfl ?_
  by_cases q1 : i0 < (Int32.ofNat n)
  rotate_left
  · skip
    refine o_icmpN C X d9_3 6 rfl (flt q1).1 ?_
    refine o_iconst C X d9_6 7 rfl (1 : Int32) (by decide) ?_
    exact o_retN C X hret (by simp) hlk d9_7 ⟨rfl, rfl, e0⟩ (Nat.le_refl _) (Nat.le_refl _)
  refine o_icmpY C X d9_3 8 (by decide) (by decide) (tlt q1).1 ?_
  rw [Int32.lt_iff_toInt_lt, hl, hi] at q1
  refine o_iloadN C X d9_8 9 rfl rfl ?_
  refine o_iconst C X d9_9 10 rfl (1 : Int32) (by decide) ?_
  refine o_iadd C X d9_10 11 rfl ?_
  refine o_aloadN C X d9_11 12 rfl rfl rfl ?_
  refine o_arraylength C X hZ e0 A (Int32.ofNat n) rfl d9_12 13 rfl ?_
  refine o_icmpY C X d9_13 18 (by decide) (by decide) (tlt (by rw [Int32.lt_iff_toInt_lt, hl, a1]; omega : (i0 + (1 : Int32)) < (Int32.ofNat n))).1 ?_
  refine o_aloadN C X d9_18 19 rfl rfl rfl ?_
  refine o_iloadN C X d9_19 20 rfl rfl ?_
  refine o_iaload C X hZ e0 A (k) hi (by omega) d9_20 21 rfl ?_
  refine o_aloadN C X d9_21 22 rfl rfl rfl ?_
  refine o_iloadN C X d9_22 23 rfl rfl ?_
  refine o_iconst C X d9_23 24 rfl (1 : Int32) (by decide) ?_
  refine o_iadd C X d9_24 25 rfl ?_
  refine o_iaload C X hZ e0 A (k + 1) a1 (by omega) d9_25 26 rfl ?_
  refine o_icmpY C X d9_26 31 (by decide) (by decide) (flt (hA (by omega))).2.2.2 ?_
  refine o_iloadN C X d9_31 32 rfl rfl ?_
  refine o_iconst C X d9_32 33 rfl (2 : Int32) (by decide) ?_
  refine o_iadd C X d9_33 34 rfl ?_
  refine o_aloadN C X d9_34 35 rfl rfl rfl ?_
  refine o_arraylength C X hZ e0 A (Int32.ofNat n) rfl d9_35 36 rfl ?_
  by_cases q2 : (i0 + (2 : Int32)) < (Int32.ofNat n)
  rotate_left
  · skip
    refine o_icmpY C X d9_36 54 (by decide) (by decide) (flt q2).2.1 ?_
    refine o_iconst C X d9_54 55 rfl (1 : Int32) (by decide) ?_
    refine o_goto C X d9_55 59 (by decide) (by decide) ?_
    exact o_retN C X hret (by simp) hlk d9_59 ⟨rfl, rfl, e0⟩ (Nat.le_refl _) (Nat.le_refl _)
  refine o_icmpN C X d9_36 39 rfl (tlt q2).2.1 ?_
  rw [Int32.lt_iff_toInt_lt, hl, a2] at q2
  refine o_aloadN C X d9_39 40 rfl rfl rfl ?_
  refine o_iloadN C X d9_40 41 rfl rfl ?_
  refine o_iconst C X d9_41 42 rfl (1 : Int32) (by decide) ?_
  refine o_iadd C X d9_42 43 rfl ?_
  refine o_iaload C X hZ e0 A (k + 1) a1 (by omega) d9_43 44 rfl ?_
  refine o_iconst C X d9_44 45 rfl (1 : Int32) (by decide) ?_
  refine o_iadd C X d9_45 46 rfl ?_
  refine o_aloadN C X d9_46 47 rfl rfl rfl ?_
  refine o_iloadN C X d9_47 48 rfl rfl ?_
  refine o_iconst C X d9_48 49 rfl (2 : Int32) (by decide) ?_
  refine o_iadd C X d9_49 50 rfl ?_
  refine o_iaload C X hZ e0 A (k + 2) a2 (by omega) d9_50 51 rfl ?_
  refine o_icmpN C X d9_51 54 rfl (tlt (hB (by omega))).2.1 ?_
  refine o_iconst C X d9_54 55 rfl (1 : Int32) (by decide) ?_
  refine o_goto C X d9_55 59 (by decide) (by decide) ?_
  exact o_retN C X hret (by simp) hlk d9_59 ⟨rfl, rfl, e0⟩ (Nat.le_refl _) (Nat.le_refl _)
theorem d11_0 : decode prog_24_method_7_code 0 = .ok (.iconst 0, 1) := by decide +kernel
theorem d11_1 : decode prog_24_method_7_code 1 = .ok (.istore_n 2, 1) := by decide +kernel
theorem d11_2 : decode prog_24_method_7_code 2 = .ok (.aload_n 0, 1) := by decide +kernel
theorem d11_3 : decode prog_24_method_7_code 3 = .ok (.getfield 9, 3) := by decide +kernel
theorem d11_6 : decode prog_24_method_7_code 6 = .ok (.arraylength, 1) := by decide +kernel
theorem d11_7 : decode prog_24_method_7_code 7 = .ok (.iconst 2, 1) := by decide +kernel
theorem d11_8 : decode prog_24_method_7_code 8 = .ok (.idiv, 1) := by decide +kernel
theorem d11_9 : decode prog_24_method_7_code 9 = .ok (.istore_n 3, 1) := by decide +kernel
theorem d11_10 : decode prog_24_method_7_code 10 = .ok (.iload_n 2, 1) := by decide +kernel
theorem d11_11 : decode prog_24_method_7_code 11 = .ok (.iload_n 3, 1) := by decide +kernel
theorem d11_12 : decode prog_24_method_7_code 12 = .ok (.if_icmp .ge 37, 3) := by decide +kernel
theorem d11_15 : decode prog_24_method_7_code 15 = .ok (.iload_n 2, 1) := by decide +kernel
theorem d11_16 : decode prog_24_method_7_code 16 = .ok (.iload_n 3, 1) := by decide +kernel
theorem d11_17 : decode prog_24_method_7_code 17 = .ok (.iadd, 1) := by decide +kernel
theorem d11_18 : decode prog_24_method_7_code 18 = .ok (.iconst 1, 1) := by decide +kernel
theorem d11_19 : decode prog_24_method_7_code 19 = .ok (.iushr, 1) := by decide +kernel
theorem d11_20 : decode prog_24_method_7_code 20 = .ok (.istore 4, 2) := by decide +kernel
theorem d11_22 : decode prog_24_method_7_code 22 = .ok (.aload_n 0, 1) := by decide +kernel
theorem d11_23 : decode prog_24_method_7_code 23 = .ok (.getfield 9, 3) := by decide +kernel
theorem d11_26 : decode prog_24_method_7_code 26 = .ok (.iconst 2, 1) := by decide +kernel
theorem d11_27 : decode prog_24_method_7_code 27 = .ok (.iload 4, 2) := by decide +kernel
theorem d11_29 : decode prog_24_method_7_code 29 = .ok (.imul, 1) := by decide +kernel
theorem d11_30 : decode prog_24_method_7_code 30 = .ok (.iaload, 1) := by decide +kernel
theorem d11_31 : decode prog_24_method_7_code 31 = .ok (.iload_n 1, 1) := by decide +kernel
theorem d11_32 : decode prog_24_method_7_code 32 = .ok (.if_icmp .gt 11, 3) := by decide +kernel
theorem d11_35 : decode prog_24_method_7_code 35 = .ok (.iload 4, 2) := by decide +kernel
theorem d11_37 : decode prog_24_method_7_code 37 = .ok (.iconst 1, 1) := by decide +kernel
theorem d11_38 : decode prog_24_method_7_code 38 = .ok (.iadd, 1) := by decide +kernel
theorem d11_39 : decode prog_24_method_7_code 39 = .ok (.istore_n 2, 1) := by decide +kernel
theorem d11_40 : decode prog_24_method_7_code 40 = .ok (.goto 6, 3) := by decide +kernel
theorem d11_43 : decode prog_24_method_7_code 43 = .ok (.iload 4, 2) := by decide +kernel
theorem d11_45 : decode prog_24_method_7_code 45 = .ok (.istore_n 3, 1) := by decide +kernel
theorem d11_46 : decode prog_24_method_7_code 46 = .ok (.goto (-36), 3) := by decide +kernel
theorem d11_49 : decode prog_24_method_7_code 49 = .ok (.iload_n 2, 1) := by decide +kernel
theorem d11_50 : decode prog_24_method_7_code 50 = .ok (.ifCond .le 21, 3) := by decide +kernel
theorem d11_53 : decode prog_24_method_7_code 53 = .ok (.iload_n 1, 1) := by decide +kernel
theorem d11_54 : decode prog_24_method_7_code 54 = .ok (.aload_n 0, 1) := by decide +kernel
theorem d11_55 : decode prog_24_method_7_code 55 = .ok (.getfield 9, 3) := by decide +kernel
theorem d11_58 : decode prog_24_method_7_code 58 = .ok (.iconst 2, 1) := by decide +kernel
theorem d11_59 : decode prog_24_method_7_code 59 = .ok (.iload_n 2, 1) := by decide +kernel
theorem d11_60 : decode prog_24_method_7_code 60 = .ok (.imul, 1) := by decide +kernel
theorem d11_61 : decode prog_24_method_7_code 61 = .ok (.iconst 1, 1) := by decide +kernel
theorem d11_62 : decode prog_24_method_7_code 62 = .ok (.isub, 1) := by decide +kernel
theorem d11_63 : decode prog_24_method_7_code 63 = .ok (.iaload, 1) := by decide +kernel
theorem d11_64 : decode prog_24_method_7_code 64 = .ok (.if_icmp .gt 7, 3) := by decide +kernel
theorem d11_67 : decode prog_24_method_7_code 67 = .ok (.iconst 1, 1) := by decide +kernel
theorem d11_68 : decode prog_24_method_7_code 68 = .ok (.goto 4, 3) := by decide +kernel
theorem d11_71 : decode prog_24_method_7_code 71 = .ok (.iconst 0, 1) := by decide +kernel
theorem d11_72 : decode prog_24_method_7_code 72 = .ok (.ireturn, 1) := by decide +kernel
theorem pn_11 : plainFor (⟨"com/example/scanloom/scanloom/lexer/CodePointSet", "contains", "(I)Z"⟩ : MethodName) = true := by first | exact plainFor_of_name (by first | (simp [plainName, overriddenIn]; done) | decide +kernel) | decide +kernel
theorem ef_11 (m : MethodId) (a : Addr) (p0 : Int32) : entryFrame m #[(.ref a), (.int p0)] 5 = (mkF m 0 #[.val (.ref a), .val (.int p0), .unset, .unset, .unset] []) := by first | (simp [entryFrame, mkF, argsToLocals, Value.category]; done) | rfl
def CT (g : Nat → Int32) (p0 : Int32) (t : Nat) : Int32 := if t = 0 then 0 else if g (2 * t - 1) < p0 then 0 else 1
def QCT (g : Nat → Int32) (p0 : Int32) (M : Nat) (h0 : Heap) : Option Value → Heap → List Loc → Prop := fun v h L => ∃ t, t ≤ M ∧ v = some (.int (CT g p0 t)) ∧ L = [] ∧ h = h0 ∧ (∀ i, i < t → ¬ p0 < g (2 * i)) ∧ (∀ i, t ≤ i → i < M → p0 < g (2 * i))
theorem own_half {v : Int32} {M : Nat} (h : v.toInt = ((2 * M : Nat) : Int)) (hM : M < 1000) : (v / (2 : Int32)).toInt = (M : Int) := by
  have := (c_idiv v 2 2 rfl (by decide)).1 (by omega)
  omega
set_option maxRecDepth 65536 in
set_option maxHeartbeats 40000000 in
theorem loop1 {p : Program} {l : Launch} {e : Env} {R : Room} {s : State} {m : MethodId} {args : Array Value} {below : List Frame} {meth : Method} {c : Code} {Z : State} {a0 : Array Value} {h0 : Heap} (hw : ∀ d ∈ tables_1, d.before a0 Z = true) (a r : Addr) (p0 : Int32) (g : Nat → Int32) (M : Nat) (hM : M ≤ 8) (hsort : ∀ i j, i ≤ j → j < M → ¬ g (2 * j) < g (2 * i)) (P : CS Z h0 a (.ref r)) (A : AI Z h0 r .int (2 * M) g) (C : Cx p c prog_24_method_7_code) (hZ : Z.Warmed39 s.vm) (hown : s.vm.findClass "com/example/scanloom/scanloom/lexer/CodePointSet" = some m.cls) (hret : meth.sig.returnType = some .boolean) (hlk : meth.locks = false) :
    ∀ (k lo hi : Nat) (u v : Int32) (d : Slot) (T : State), u.toInt = lo → v.toInt = hi → hi - lo ≤ k → lo ≤ hi → hi ≤ M → One d → (∀ i, i < lo → ¬ p0 < g (2 * i)) → (∀ i, hi ≤ i → i < M → p0 < g (2 * i)) → Stand p l e R s m args below meth c T [] 0 0 → T.heap = h0 →
      Ends p e below s (QCT g p0 M h0) 0 0 (T.setTop (mkF m 10 #[.val (.ref a), .val (.int p0), .val (.int u), .val (.int v), d] [])) := by
  intro k
  induction k with
  | zero =>
    intro lo hi u v d T hu hv hk h1 h2 hd g1 g2 X e0
    have q : ¬ u < v := by rw [Int32.lt_iff_toInt_lt]; omega
    refine o_iloadN C X d11_10 11 rfl rfl ?_
    refine o_iloadN C X d11_11 12 rfl rfl ?_
    refine o_icmpY C X d11_12 49 (by decide) (by decide) (flt q).2.1 ?_
    refine o_iloadN C X d11_49 50 rfl rfl ?_
    by_cases z0 : (0 : Int32) < u
    rotate_left
    · skip
      have : lo = 0 := by rw [Int32.lt_iff_toInt_lt, hu, show (0 : Int32).toInt = 0 from rfl] at z0; omega
      refine o_ifY C X d11_50 71 (by decide) (by decide) ((if0 _ _).trans (flt z0).2.2.2) ?_
      refine o_iconst C X d11_71 72 rfl (0 : Int32) (by decide) ?_
      exact o_retN C X hret (by simp) hlk d11_72 ⟨lo, by omega, congrArg some (congrArg _ (by unfold CT; rw [if_pos this]; decide)), rfl, e0, g1, fun i hi hin => g2 i (by omega) hin⟩ (Nat.le_refl _) (Nat.le_refl _)
    have hlo : 0 < lo := by rw [Int32.lt_iff_toInt_lt, hu, show (0 : Int32).toInt = 0 from rfl] at z0; omega
    refine o_ifN C X d11_50 53 rfl ((if0 _ _).trans (tlt z0).2.2.2) ?_
    refine o_iloadN C X d11_53 54 rfl rfl ?_
    refine o_aloadN C X d11_54 55 rfl rfl rfl ?_
    refine o_getF C X hZ hown (hw _ (List.mem_of_getElem? (i := 45) rfl)) Via.refl e0 P.2 d11_55 58 rfl ?_
    intro T X e0
    refine o_iconst C X d11_58 59 rfl (2 : Int32) (by decide) ?_
    refine o_iloadN C X d11_59 60 rfl rfl ?_
    refine o_imul C X d11_60 61 rfl ?_
    refine o_iconst C X d11_61 62 rfl (1 : Int32) (by decide) ?_
    refine o_isub C X d11_62 63 rfl ?_
    refine o_iaload C X hZ e0 A (2 * lo - 1) (own_sub (own_mul2 hu (by omega)) rfl (by omega) (by omega)) (by omega) d11_63 64 rfl ?_
    by_cases y0 : (g (2 * lo - 1)) < p0
    · skip
      refine o_icmpY C X d11_64 71 (by decide) (by decide) (tlt y0).2.2.1 ?_
      refine o_iconst C X d11_71 72 rfl (0 : Int32) (by decide) ?_
      exact o_retN C X hret (by simp) hlk d11_72 ⟨lo, by omega, congrArg some (congrArg _ (by unfold CT; rw [if_neg (by omega), if_pos y0]; decide)), rfl, e0, g1, fun i hi hin => g2 i (by omega) hin⟩ (Nat.le_refl _) (Nat.le_refl _)
    · skip
      refine o_icmpN C X d11_64 67 rfl (flt y0).2.2.1 ?_
      refine o_iconst C X d11_67 68 rfl (1 : Int32) (by decide) ?_
      refine o_goto C X d11_68 72 (by decide) (by decide) ?_
      exact o_retN C X hret (by simp) hlk d11_72 ⟨lo, by omega, congrArg some (congrArg _ (by unfold CT; rw [if_neg (by omega), if_neg y0]; decide)), rfl, e0, g1, fun i hi hin => g2 i (by omega) hin⟩ (Nat.le_refl _) (Nat.le_refl _)
  | succ k ih =>
    intro lo hi u v d T hu hv hk h1 h2 hd g1 g2 X e0
    by_cases q : u < v
    rotate_left
    · skip
      have : ¬ lo < hi := by rw [Int32.lt_iff_toInt_lt] at q; omega
      refine o_iloadN C X d11_10 11 rfl rfl ?_
      refine o_iloadN C X d11_11 12 rfl rfl ?_
      refine o_icmpY C X d11_12 49 (by decide) (by decide) (flt q).2.1 ?_
      refine o_iloadN C X d11_49 50 rfl rfl ?_
      by_cases z0 : (0 : Int32) < u
      rotate_left
      · skip
        have : lo = 0 := by rw [Int32.lt_iff_toInt_lt, hu, show (0 : Int32).toInt = 0 from rfl] at z0; omega
        refine o_ifY C X d11_50 71 (by decide) (by decide) ((if0 _ _).trans (flt z0).2.2.2) ?_
        refine o_iconst C X d11_71 72 rfl (0 : Int32) (by decide) ?_
        exact o_retN C X hret (by simp) hlk d11_72 ⟨lo, by omega, congrArg some (congrArg _ (by unfold CT; rw [if_pos this]; decide)), rfl, e0, g1, fun i hi hin => g2 i (by omega) hin⟩ (Nat.le_refl _) (Nat.le_refl _)
      have hlo : 0 < lo := by rw [Int32.lt_iff_toInt_lt, hu, show (0 : Int32).toInt = 0 from rfl] at z0; omega
      refine o_ifN C X d11_50 53 rfl ((if0 _ _).trans (tlt z0).2.2.2) ?_
      refine o_iloadN C X d11_53 54 rfl rfl ?_
      refine o_aloadN C X d11_54 55 rfl rfl rfl ?_
      refine o_getF C X hZ hown (hw _ (List.mem_of_getElem? (i := 45) rfl)) Via.refl e0 P.2 d11_55 58 rfl ?_
      intro T X e0
      refine o_iconst C X d11_58 59 rfl (2 : Int32) (by decide) ?_
      refine o_iloadN C X d11_59 60 rfl rfl ?_
      refine o_imul C X d11_60 61 rfl ?_
      refine o_iconst C X d11_61 62 rfl (1 : Int32) (by decide) ?_
      refine o_isub C X d11_62 63 rfl ?_
      refine o_iaload C X hZ e0 A (2 * lo - 1) (own_sub (own_mul2 hu (by omega)) rfl (by omega) (by omega)) (by omega) d11_63 64 rfl ?_
      by_cases y0 : (g (2 * lo - 1)) < p0
      · skip
        refine o_icmpY C X d11_64 71 (by decide) (by decide) (tlt y0).2.2.1 ?_
        refine o_iconst C X d11_71 72 rfl (0 : Int32) (by decide) ?_
        exact o_retN C X hret (by simp) hlk d11_72 ⟨lo, by omega, congrArg some (congrArg _ (by unfold CT; rw [if_neg (by omega), if_pos y0]; decide)), rfl, e0, g1, fun i hi hin => g2 i (by omega) hin⟩ (Nat.le_refl _) (Nat.le_refl _)
      · skip
        refine o_icmpN C X d11_64 67 rfl (flt y0).2.2.1 ?_
        refine o_iconst C X d11_67 68 rfl (1 : Int32) (by decide) ?_
        refine o_goto C X d11_68 72 (by decide) (by decide) ?_
        exact o_retN C X hret (by simp) hlk d11_72 ⟨lo, by omega, congrArg some (congrArg _ (by unfold CT; rw [if_neg (by omega), if_neg y0]; decide)), rfl, e0, g1, fun i hi hin => g2 i (by omega) hin⟩ (Nat.le_refl _) (Nat.le_refl _)
    have hlt : lo < hi := by rw [Int32.lt_iff_toInt_lt] at q; omega
    have hm := own_mid hu hv (by omega) (by omega)
    refine o_iloadN C X d11_10 11 rfl rfl ?_
    refine o_iloadN C X d11_11 12 rfl rfl ?_
    refine o_icmpN C X d11_12 15 rfl (tlt q).2.1 ?_
    refine o_iloadN C X d11_15 16 rfl rfl ?_
    refine o_iloadN C X d11_16 17 rfl rfl ?_
    refine o_iadd C X d11_17 18 rfl ?_
    refine o_iconst C X d11_18 19 rfl (1 : Int32) (by decide) ?_
    refine o_iushr C X d11_19 20 rfl ?_
    refine o_istore C X d11_20 22 rfl #[.val (.ref a), .val (.int p0), .val (.int u), .val (.int v), .val (.int (ushr (u + v) (1 : Int32)))] (by rcases hd with rfl | ⟨z, rfl, hz⟩ <;> first | rfl | (cases z <;> first | rfl | (simp [Value.category] at hz))) ?_
    generalize hmi : (ushr (u + v) (1 : Int32)) = mi
    rw [hmi] at hm
    refine o_aloadN C X d11_22 23 rfl rfl rfl ?_
    refine o_getF C X hZ hown (hw _ (List.mem_of_getElem? (i := 45) rfl)) Via.refl e0 P.2 d11_23 26 rfl ?_
    intro T X e0
    refine o_iconst C X d11_26 27 rfl (2 : Int32) (by decide) ?_
    refine o_iload C X d11_27 29 rfl rfl ?_
    refine o_imul C X d11_29 30 rfl ?_
    refine o_iaload C X hZ e0 A (2 * ((lo + hi) / 2)) (own_mul2 hm (by omega)) (by omega) d11_30 31 rfl ?_
    refine o_iloadN C X d11_31 32 rfl rfl ?_
    by_cases g : p0 < (g (2 * ((lo + hi) / 2)))
    · skip
      refine o_icmpY C X d11_32 43 (by decide) (by decide) (tlt g).2.2.1 ?_
      refine o_iload C X d11_43 45 rfl rfl ?_
      refine o_istoreN C X d11_45 46 rfl #[.val (.ref a), .val (.int p0), .val (.int u), .val (.int mi), .val (.int mi)] rfl ?_
      refine o_goto C X d11_46 10 (by decide) (by decide) ?_
      exact ih lo ((lo + hi) / 2) _ _ _ T hu hm (by omega) (by omega) (by omega) (One.val rfl) g1 (fun i hi' hin => by
        have := hsort ((lo + hi) / 2) i hi' hin
        rw [Int32.lt_iff_toInt_lt] at this g ⊢; omega) X e0
    · skip
      refine o_icmpN C X d11_32 35 rfl (flt g).2.2.1 ?_
      refine o_iload C X d11_35 37 rfl rfl ?_
      refine o_iconst C X d11_37 38 rfl (1 : Int32) (by decide) ?_
      refine o_iadd C X d11_38 39 rfl ?_
      refine o_istoreN C X d11_39 40 rfl #[.val (.ref a), .val (.int p0), .val (.int (mi + (1 : Int32))), .val (.int v), .val (.int mi)] rfl ?_
      refine o_goto C X d11_40 46 (by decide) (by decide) ?_
      refine o_goto C X d11_46 10 (by decide) (by decide) ?_
      exact ih ((lo + hi) / 2 + 1) hi _ _ _ T (own_add hm rfl (by omega) (by omega)) hv (by omega) (by omega) h2 (One.val rfl) (fun i hi' => by
        have := hsort i ((lo + hi) / 2) (by omega) (by omega)
        rw [Int32.lt_iff_toInt_lt] at this g ⊢; omega) g2 X e0
set_option maxRecDepth 65536 in
set_option maxHeartbeats 40000000 in
theorem rm11 (l : Launch) (Z : State) (a0 : Array Value) (hw : ∀ d ∈ tables_1, d.before a0 Z = true) (a r : Addr) (p0 : Int32) (g : Nat → Int32) (M : Nat) (h0 : Heap) (hM : M ≤ 8) (hsort : ∀ i j, i ≤ j → j < M → ¬ g (2 * j) < g (2 * i)) (P : CS Z h0 a (.ref r)) (A : AI Z h0 r .int (2 * M) g) : Con l Z (⟨"com/example/scanloom/scanloom/lexer/CodePointSet", "contains", "(I)Z"⟩ : MethodName) prog_24_method_7_code 5 (some .boolean) ({ frames := 0, cells := 0, slots := 0, locals := 0 } : Room) 0 0 [] #[(.ref a), (.int p0)] h0 (QCT g p0 M h0) := by
  refine Con.of pn_11 ?_
  intro p e s m below meth c T C hZ hml hown hret hnm hlk X e0
  rw [ef_11]
  refine o_iconst C X d11_0 1 rfl (0 : Int32) (by decide) ?_
  refine o_istoreN C X d11_1 2 rfl #[.val (.ref a), .val (.int p0), .val (.int (0 : Int32)), .unset, .unset] rfl ?_
  refine o_aloadN C X d11_2 3 rfl rfl rfl ?_
  refine o_getF C X hZ hown (hw _ (List.mem_of_getElem? (i := 45) rfl)) Via.refl e0 P.2 d11_3 6 rfl ?_
  intro T X e0
  refine o_arraylength C X hZ e0 A (Int32.ofNat (2 * M)) rfl d11_6 7 rfl ?_
  refine o_iconst C X d11_7 8 rfl (2 : Int32) (by decide) ?_
  refine o_idiv C X d11_8 9 rfl (by decide) ?_
  refine o_istoreN C X d11_9 10 rfl #[.val (.ref a), .val (.int p0), .val (.int (0 : Int32)), .val (.int ((Int32.ofNat (2 * M)) / (2 : Int32))), .unset] rfl ?_
  exact loop1 hw a r p0 g M hM hsort P A C hZ hown hret hlk M 0 M _ _ _ T rfl (own_half (own_to (by omega)) (by omega)) (by omega) (by omega) (Nat.le_refl _) One.u (fun i hi => absurd hi (Nat.not_lt_zero _)) (fun i h1 h2 => absurd h2 (by omega)) X e0
/-- the places 0 .. n - 1 hold pairs, in order and apart; they say M -/
def Inv (n : Nat) (g : Nat → Int32) (A B : Int) (M : Int → Prop) : Prop :=
  n % 2 = 0 ∧ 2 ≤ n ∧ (g 0).toInt = A ∧ (g (n - 1)).toInt = B ∧ (∀ j, 2 * j + 1 < n → (g (2 * j)).toInt ≤ (g (2 * j + 1)).toInt) ∧ (∀ j, 2 * j + 2 < n → (g (2 * j + 1)).toInt + 1 < (g (2 * j + 2)).toInt) ∧ ∀ p : Int, (∃ j, 2 * j + 1 < n ∧ (g (2 * j)).toInt ≤ p ∧ p ≤ (g (2 * j + 1)).toInt) ↔ M p
theorem Inv.congr {n : Nat} {g g' : Nat → Int32} {A B : Int} {M : Int → Prop} (h : Inv n g A B M) (q : ∀ j, j < n → g' j = g j) : Inv n g' A B M := by
  obtain ⟨h1, h2, h3, h4, h5, h6, h7⟩ := h
  refine ⟨h1, h2, by rw [q 0 (by omega)]; exact h3, by rw [q (n - 1) (by omega)]; exact h4, fun j hj => ?_, fun j hj => ?_, fun p => ?_⟩
  · rw [q (2 * j) (by omega), q (2 * j + 1) hj]; exact h5 j hj
  · rw [q (2 * j + 1) (by omega), q (2 * j + 2) hj]; exact h6 j hj
  · rw [← h7 p]
    constructor
    · rintro ⟨j, a, b, d⟩; rw [q (2 * j) (by omega)] at b; rw [q (2 * j + 1) a] at d; exact ⟨j, a, b, d⟩
    · rintro ⟨j, a, b, d⟩; rw [← q (2 * j) (by omega)] at b; rw [← q (2 * j + 1) a] at d; exact ⟨j, a, b, d⟩
theorem own_first {f g : Nat → Int32} {u0 u1 : Int32} {n : Nat} (h : ADD 0 f u0 u1 n g) (hu : u0.toInt ≤ u1.toInt) : Inv n g u0.toInt u1.toInt (fun p => u0.toInt ≤ p ∧ p ≤ u1.toInt) ∧ n = 2 := by
  rcases h with ⟨h, -⟩ | ⟨-, h1, -, h3, h4⟩
  · omega
  · obtain rfl : n = 2 := by omega
    refine ⟨⟨rfl, by omega, by rw [h3], by show (g 1).toInt = _; rw [show g 1 = u1 from h4], fun j hj => ?_, fun j hj => by omega, fun p => ?_⟩, rfl⟩
    · obtain rfl : j = 0 := by omega
      show (g 0).toInt ≤ (g 1).toInt
      rw [h3, show g 1 = u1 from h4]; exact hu
    · constructor
      · rintro ⟨j, a, b, d⟩
        obtain rfl : j = 0 := by omega
        rw [show g (2 * 0) = u0 from h3] at b
        rw [show g (2 * 0 + 1) = u1 from h4] at d
        exact ⟨b, d⟩
      · rintro ⟨b, d⟩
        refine ⟨0, by omega, ?_, ?_⟩
        · rw [show g (2 * 0) = u0 from h3]; exact b
        · rw [show g (2 * 0 + 1) = u1 from h4]; exact d
theorem own_inc {x : Int32} (h0 : 0 ≤ x.toInt) (h1 : x.toInt < 2000000000) : (x + 1).toInt = x.toInt + 1 := by
  have := c_iadd x 1
  have r := rng32 (x + 1)
  rw [show (1 : Int32).toInt = 1 from rfl] at this
  omega
theorem own_next {n n' : Nat} {f g : Nat → Int32} {u0 u1 : Int32} {A B d : Int} {M : Int → Prop} (h : Inv n f A B M) (ha : ADD n f u0 u1 n' g) (hd : u0.toInt = B + 1 + d) (h0 : 0 ≤ d) (hB0 : 0 ≤ B) (hB : B < 2000000) (hu : u0.toInt ≤ u1.toInt) :
    Inv n' g A u1.toInt (fun p => M p ∨ (u0.toInt ≤ p ∧ p ≤ u1.toInt)) ∧ n' = n + (if d = 0 then 0 else 2) := by
  obtain ⟨h1, h2, h3, h4, h5, h6, h7⟩ := h
  obtain ⟨K, rfl⟩ : ∃ K, n = 2 * K + 2 := ⟨(n - 2) / 2, by omega⟩
  rw [show 2 * K + 2 - 1 = 2 * K + 1 by omega] at h4
  have hi : (f (2 * K + 1) + 1).toInt = B + 1 := by rw [own_inc (by omega) (by omega), h4]
  rcases ha with ⟨-, t, rfl, q, r⟩ | ⟨t, rfl, q, r, r'⟩
  · rw [show 2 * K + 2 - 1 = 2 * K + 1 by omega] at t q r
    have hd0 : d = 0 := by rw [t, hi] at hd; omega
    refine ⟨⟨h1, h2, ?_, by rw [show 2 * K + 2 - 1 = 2 * K + 1 by omega, r], fun j hj => ?_, fun j hj => ?_, fun p => ?_⟩, by rw [if_pos hd0]⟩
    · rw [q 0 (by omega)]; exact h3
    · rw [q (2 * j) (by omega)]
      by_cases e : j = K
      · subst e; rw [r]; have := h5 j hj; omega
      · rw [q (2 * j + 1) (by omega)]; exact h5 j hj
    · rw [q (2 * j + 1) (by omega), q (2 * j + 2) (by omega)]; exact h6 j hj
    · constructor
      · rintro ⟨j, a, b, e⟩
        rw [q (2 * j) (by omega)] at b
        by_cases eK : j = K
        · subst eK; rw [r] at e
          by_cases c : p ≤ B
          · exact Or.inl ((h7 p).mp ⟨j, a, b, by omega⟩)
          · exact Or.inr ⟨by omega, e⟩
        · rw [q (2 * j + 1) (by omega)] at e
          exact Or.inl ((h7 p).mp ⟨j, a, b, e⟩)
      · rintro (m | ⟨b, e⟩)
        · obtain ⟨j, a, b, e⟩ := (h7 p).mpr m
          by_cases eK : j = K
          · subst eK; exact ⟨j, a, by rw [q (2 * j) (by omega)]; exact b, by rw [r]; omega⟩
          · exact ⟨j, a, by rw [q (2 * j) (by omega)]; exact b, by rw [q (2 * j + 1) (by omega)]; exact e⟩
        · refine ⟨K, by omega, ?_, by rw [r]; exact e⟩
          rw [q (2 * K) (by omega)]
          have := h5 K (by omega)
          omega
  · rw [show 2 * K + 2 - 1 = 2 * K + 1 by omega] at t
    have hd0 : d ≠ 0 := fun e => t ⟨by omega, Int32.toInt_inj.mp (by rw [hi, hd]; omega)⟩
    refine ⟨⟨by omega, by omega, ?_, by rw [show 2 * K + 2 + 2 - 1 = 2 * K + 2 + 1 by omega, r'], fun j hj => ?_, fun j hj => ?_, fun p => ?_⟩, by rw [if_neg hd0]⟩
    · rw [q 0 (by omega)]; exact h3
    · by_cases e : j = K + 1
      · subst e; rw [show 2 * (K + 1) = 2 * K + 2 by omega, r, r']; exact hu
      · rw [q (2 * j) (by omega), q (2 * j + 1) (by omega)]; exact h5 j (by omega)
    · by_cases e : j = K
      · subst e; rw [r, q (2 * j + 1) (by omega)]; omega
      · rw [q (2 * j + 1) (by omega), q (2 * j + 2) (by omega)]; exact h6 j (by omega)
    · constructor
      · rintro ⟨j, a, b, e⟩
        by_cases eK : j = K + 1
        · subst eK; rw [show 2 * (K + 1) = 2 * K + 2 by omega] at b e; rw [r] at b; rw [r'] at e; exact Or.inr ⟨b, e⟩
        · rw [q (2 * j) (by omega)] at b; rw [q (2 * j + 1) (by omega)] at e; exact Or.inl ((h7 p).mp ⟨j, by omega, b, e⟩)
      · rintro (m | ⟨b, e⟩)
        · obtain ⟨j, a, b, e⟩ := (h7 p).mpr m
          exact ⟨j, by omega, by rw [q (2 * j) (by omega)]; exact b, by rw [q (2 * j + 1) (by omega)]; exact e⟩
        · exact ⟨K + 1, by omega, by rw [show 2 * (K + 1) = 2 * K + 2 by omega, r]; exact b, by rw [show 2 * (K + 1) + 1 = 2 * K + 2 + 1 by omega, r']; exact e⟩
theorem Inv.sort {M0 : Nat} {g : Nat → Int32} {A B : Int} {M : Int → Prop} (h : Inv (2 * M0) g A B M) : ∀ i j, i ≤ j → j < M0 → (g (2 * i)).toInt ≤ (g (2 * j)).toInt := by
  obtain ⟨-, -, -, -, h5, h6, -⟩ := h
  intro i j hij
  induction j with
  | zero => intro _; obtain rfl : i = 0 := by omega
            exact Int.le_refl _
  | succ j ih =>
    intro hj
    by_cases e : i = j + 1
    · subst e; exact Int.le_refl _
    · have a := ih (by omega) (by omega)
      have b := h5 j (by omega)
      have d := h6 j (by omega)
      rw [show 2 * (j + 1) = 2 * j + 2 by omega]; omega
theorem own_ct {M0 : Nat} {g : Nat → Int32} {A B : Int} {M : Int → Prop} (h : Inv (2 * M0) g A B M) {p0 : Int32} {t : Nat} (ht : t ≤ M0) (g1 : ∀ i, i < t → ¬ p0 < g (2 * i)) (g2 : ∀ i, t ≤ i → i < M0 → p0 < g (2 * i)) : CT g p0 t = 1 ↔ M p0.toInt := by
  have hs := h.sort
  obtain ⟨-, -, -, -, h5, h6, h7⟩ := h
  simp only [Int32.lt_iff_toInt_lt] at g1 g2
  rw [← h7]
  unfold CT
  simp only [Int32.lt_iff_toInt_lt]
  by_cases e : t = 0
  · rw [if_pos e]
    refine ⟨fun q => absurd q (by decide), ?_⟩
    rintro ⟨j, a, b, d⟩
    have := g2 j (by omega) (by omega)
    omega
  · rw [if_neg e]
    have k := g1 (t - 1) (by omega)
    by_cases c : (g (2 * t - 1)).toInt < p0.toInt
    · rw [if_pos c]
      refine ⟨fun q => absurd q (by decide), ?_⟩
      rintro ⟨j, a, b, d⟩
      exfalso
      by_cases hj : j < t
      · by_cases hj' : j = t - 1
        · subst hj'; rw [show 2 * (t - 1) + 1 = 2 * t - 1 by omega] at d; omega
        · have m1 := hs (j + 1) (t - 1) (by omega) (by omega)
          have m2 := h6 j (by omega)
          rw [show 2 * (j + 1) = 2 * j + 2 by omega] at m1
          omega
      · have := g2 j (by omega) (by omega)
        omega
    · rw [if_neg c]
      refine ⟨fun _ => ⟨t - 1, by omega, by omega, ?_⟩, fun _ => rfl⟩
      rw [show 2 * (t - 1) + 1 = 2 * t - 1 by omega]; omega
theorem own_ct01 (g : Nat → Int32) (p0 : Int32) (t : Nat) : CT g p0 t = 0 ∨ CT g p0 t = 1 := by
  unfold CT; (repeat' split) <;> simp
theorem own_len {f z : Int32} (h0 : 0 ≤ f.toInt) (h1 : f.toInt < 2000000) : f.toInt ≤ (f + (z &&& (15 : Int32))).toInt ∧ (f + (z &&& (15 : Int32))).toInt ≤ f.toInt + 15 := by
  have a := c_mask z 15 4 (by decide) (by decide)
  have b := c_iadd f (z &&& 15)
  have r := rng32 (f + (z &&& 15))
  omega
theorem own_gap {l z : Int32} (h0 : 0 ≤ l.toInt) (h1 : l.toInt < 2000000) : 0 ≤ (z &&& (3 : Int32)).toInt ∧ (z &&& (3 : Int32)).toInt ≤ 3 ∧ ((l + (1 : Int32)) + (z &&& (3 : Int32))).toInt = l.toInt + 1 + (z &&& (3 : Int32)).toInt := by
  have a := c_mask z 3 2 (by decide) (by decide)
  have i := own_inc h0 (by omega)
  have b := c_iadd (l + 1) (z &&& 3)
  have r := rng32 ((l + 1) + (z &&& 3))
  omega
theorem own_start (x : Int32) : 0 ≤ ((x &&& (2147483647 : Int32)) % (1113984 : Int32)).toInt ∧ ((x &&& (2147483647 : Int32)) % (1113984 : Int32)).toInt < 1113984 := by
  have hn := c_mask x 2147483647 31 (by decide) (by decide)
  have hr := (c_irem (x &&& 2147483647) 1113984 1113984 rfl).1 (by omega)
  omega
theorem own_z (g : Int32) : (g = 0) = (g.toInt = 0) := by
  rw [show (0 : Int) = (0 : Int32).toInt from rfl]; exact propext Int32.toInt_inj.symm
theorem own_len6 (g2 g3 g4 g5 g6 : Int32) (n : Nat) (hn : n = 2 + (if g2.toInt = 0 then 0 else 2) + (if g3.toInt = 0 then 0 else 2) + (if g4.toInt = 0 then 0 else 2) + (if g5.toInt = 0 then 0 else 2) + (if g6.toInt = 0 then 0 else 2)) :
    Int32.ofNat n = (2 : Int32) * ((6 : Int32) - (((((if g2 = (0 : Int32) then (1 : Int32) else (0 : Int32)) + (if g3 = (0 : Int32) then (1 : Int32) else (0 : Int32))) + (if g4 = (0 : Int32) then (1 : Int32) else (0 : Int32))) + (if g5 = (0 : Int32) then (1 : Int32) else (0 : Int32))) + (if g6 = (0 : Int32) then (1 : Int32) else (0 : Int32)))) := by
  simp only [own_z]
  subst hn
  by_cases a : g2.toInt = 0 <;> by_cases b : g3.toInt = 0 <;> by_cases c : g4.toInt = 0 <;> by_cases d : g5.toInt = 0 <;> by_cases e : g6.toInt = 0 <;> simp only [a, b, c, d, e, if_true, if_false] <;> decide
theorem own_fi (p f l : Int32) : ¬ (FI p f l = 0) ↔ f.toInt ≤ p.toInt ∧ p.toInt ≤ l.toInt := by
  unfold FI
  simp only [Int32.lt_iff_toInt_lt]
  by_cases a : p.toInt < f.toInt
  · rw [if_pos a]; exact ⟨fun q => absurd rfl q, fun q => by omega⟩
  · rw [if_neg a]
    by_cases b : l.toInt < p.toInt
    · rw [if_pos b]; exact ⟨fun q => absurd rfl q, fun q => by omega⟩
    · rw [if_neg b]; exact ⟨fun _ => by omega, fun _ => by decide⟩
theorem own_ok {n : Nat} {g : Nat → Int32} {A B : Int} {M : Int → Prop} (h : Inv n g A B M) (j : Nat) : (2 * j + 1 < n → ¬ g (2 * j + 1) < g (2 * j)) ∧ (2 * j + 2 < n → g (2 * j + 1) + 1 < g (2 * j + 2)) := by
  obtain ⟨-, -, h3, -, h5, h6, -⟩ := h
  constructor
  · intro q; rw [Int32.lt_iff_toInt_lt]; have := h5 j q; omega
  · intro q
    have a := h6 j q
    have r := rng32 (g (2 * j + 2))
    have r' := rng32 (g (2 * j + 1))
    have b := c_iadd (g (2 * j + 1)) 1
    have r2 := rng32 (g (2 * j + 1) + 1)
    rw [show (1 : Int32).toInt = 1 from rfl] at b
    rw [Int32.lt_iff_toInt_lt]; omega
theorem pd_3 : parseMethodDescriptor "()V" = some ⟨[], none⟩ := by decide +kernel
theorem pd_4 : parseMethodDescriptor "(II)Lcom/example/scanloom/scanloom/lexer/CodePointSet$Builder;" = some ⟨[.int, .int], some (.object "com/example/scanloom/scanloom/lexer/CodePointSet$Builder")⟩ := by decide +kernel
theorem pd_5 : parseMethodDescriptor "()Lcom/example/scanloom/scanloom/lexer/CodePointSet;" = some ⟨[], some (.object "com/example/scanloom/scanloom/lexer/CodePointSet")⟩ := by decide +kernel
theorem pd_6 : parseMethodDescriptor "()[I" = some ⟨[], some (.array .int)⟩ := by decide +kernel
theorem pd_7 : parseMethodDescriptor "([II)Z" = some ⟨[(.array .int), .int], some .boolean⟩ := by decide +kernel
theorem pd_8 : parseMethodDescriptor "(III)Z" = some ⟨[.int, .int, .int], some .boolean⟩ := by decide +kernel
theorem pd_9 : parseMethodDescriptor "(I)Z" = some ⟨[.int], some .boolean⟩ := by decide +kernel
theorem pn_0 : plainFor x = true := by first | exact plainFor_of_name (by first | (simp [plainName, overriddenIn]; done) | decide +kernel) | decide +kernel
theorem ef_0 (m : MethodId) (x0 : Int32) (x1 : Int32) (x2 : Int32) (x3 : Int32) : entryFrame m #[(.int x0), (.int x1), (.int x2), (.int x3)] maxLocals = (mkF m 0 #[.val (.int x0), .val (.int x1), .val (.int x2), .val (.int x3), .unset, .unset, .unset, .unset, .unset, .unset, .unset, .unset, .unset, .unset, .unset, .unset, .unset, .unset, .unset, .unset, .unset, .unset, .unset, .unset, .unset, .unset, .unset, .unset, .unset, .unset] []) := by first | (simp [entryFrame, mkF, argsToLocals, Value.category, maxLocals]; done) | rfl
set_option maxRecDepth 65536 in
set_option maxHeartbeats 40000000 in
theorem rm0 (l : Launch) (Z : State) (a0 : Array Value) (hw : ∀ d ∈ tables_1, d.before a0 Z = true) (x0 : Int32) (x1 : Int32) (x2 : Int32) (x3 : Int32) (h0 : Heap) (n0 : Nat) (Z0 : n0 ≤ h0.size) : Con l Z x code maxLocals ret room_1 24 192 tables_1 #[(.int x0), (.int x1), (.int x2), (.int x3)] h0 (fun v _ L => v = some (.int 1) ∧ Fr n0 L) := by
  refine Con.of pn_0 ?_
  intro p e s m below meth c T C hZ hml hown hret hnm hlk X e0
  have N0 := Fr.nil n0
  rw [ef_0]
  refine o_iloadN C X at_0 1 rfl rfl ?_
  refine o_ldcI C X hZ hown (hw _ (List.mem_of_getElem? (i := 0) rfl)) at_1 3 rfl ?_
  refine o_iand C X at_3 4 rfl ?_
  refine o_ldcI C X hZ hown (hw _ (List.mem_of_getElem? (i := 1) rfl)) at_4 6 rfl ?_
  refine o_irem C X at_6 7 rfl (by decide) ?_
  refine o_istore C X at_7 9 rfl #[.val (.int x0), .val (.int x1), .val (.int x2), .val (.int x3), .val (.int ((x0 &&& (2147483647 : Int32)) % (1113984 : Int32))), .unset, .unset, .unset, .unset, .unset, .unset, .unset, .unset, .unset, .unset, .unset, .unset, .unset, .unset, .unset, .unset, .unset, .unset, .unset, .unset, .unset, .unset, .unset, .unset, .unset] rfl ?_
  have s1 := own_start x0
  generalize hf1 : ((x0 &&& (2147483647 : Int32)) % (1113984 : Int32)) = f1
  rw [hf1] at s1
  refine o_iload C X at_9 11 rfl rfl ?_
  refine o_iloadN C X at_11 12 rfl rfl ?_
  refine o_bipush C X at_12 14 rfl (15 : Int32) (by decide) ?_
  refine o_iand C X at_14 15 rfl ?_
  refine o_iadd C X at_15 16 rfl ?_
  refine o_istore C X at_16 18 rfl #[.val (.int x0), .val (.int x1), .val (.int x2), .val (.int x3), .val (.int f1), .val (.int (f1 + (x1 &&& (15 : Int32)))), .unset, .unset, .unset, .unset, .unset, .unset, .unset, .unset, .unset, .unset, .unset, .unset, .unset, .unset, .unset, .unset, .unset, .unset, .unset, .unset, .unset, .unset, .unset, .unset] rfl ?_
  have z1 := own_len (f := f1) (z := x1) (by omega) (by omega)
  generalize hl1 : (f1 + (x1 &&& (15 : Int32))) = l1
  rw [hl1] at z1
  refine o_iloadN C X at_18 19 rfl rfl ?_
  refine o_iconst C X at_19 20 rfl (3 : Int32) (by decide) ?_
  refine o_iand C X at_20 21 rfl ?_
  refine o_istore C X at_21 23 rfl #[.val (.int x0), .val (.int x1), .val (.int x2), .val (.int x3), .val (.int f1), .val (.int l1), .val (.int (x2 &&& (3 : Int32))), .unset, .unset, .unset, .unset, .unset, .unset, .unset, .unset, .unset, .unset, .unset, .unset, .unset, .unset, .unset, .unset, .unset, .unset, .unset, .unset, .unset, .unset, .unset] rfl ?_
  refine o_iload C X at_23 25 rfl rfl ?_
  refine o_iconst C X at_25 26 rfl (1 : Int32) (by decide) ?_
  refine o_iadd C X at_26 27 rfl ?_
  refine o_iload C X at_27 29 rfl rfl ?_
  refine o_iadd C X at_29 30 rfl ?_
  refine o_istore C X at_30 32 rfl #[.val (.int x0), .val (.int x1), .val (.int x2), .val (.int x3), .val (.int f1), .val (.int l1), .val (.int (x2 &&& (3 : Int32))), .val (.int ((l1 + (1 : Int32)) + (x2 &&& (3 : Int32)))), .unset, .unset, .unset, .unset, .unset, .unset, .unset, .unset, .unset, .unset, .unset, .unset, .unset, .unset, .unset, .unset, .unset, .unset, .unset, .unset, .unset, .unset] rfl ?_
  have y2 := own_gap (l := l1) (z := x2) (by omega) (by omega)
  generalize hg2 : (x2 &&& (3 : Int32)) = g2
  generalize hf2 : ((l1 + (1 : Int32)) + g2) = f2
  rw [hg2] at y2
  rw [hf2] at y2
  refine o_iload C X at_32 34 rfl rfl ?_
  refine o_iloadN C X at_34 35 rfl rfl ?_
  refine o_iconst C X at_35 36 rfl (4 : Int32) (by decide) ?_
  refine o_iushr C X at_36 37 rfl ?_
  refine o_bipush C X at_37 39 rfl (15 : Int32) (by decide) ?_
  refine o_iand C X at_39 40 rfl ?_
  refine o_iadd C X at_40 41 rfl ?_
  refine o_istore C X at_41 43 rfl #[.val (.int x0), .val (.int x1), .val (.int x2), .val (.int x3), .val (.int f1), .val (.int l1), .val (.int g2), .val (.int f2), .val (.int (f2 + ((ushr x1 (4 : Int32)) &&& (15 : Int32)))), .unset, .unset, .unset, .unset, .unset, .unset, .unset, .unset, .unset, .unset, .unset, .unset, .unset, .unset, .unset, .unset, .unset, .unset, .unset, .unset, .unset] rfl ?_
  have z2 := own_len (f := f2) (z := (ushr x1 (4 : Int32))) (by omega) (by omega)
  generalize hl2 : (f2 + ((ushr x1 (4 : Int32)) &&& (15 : Int32))) = l2
  rw [hl2] at z2
  refine o_iloadN C X at_43 44 rfl rfl ?_
  refine o_iconst C X at_44 45 rfl (2 : Int32) (by decide) ?_
  refine o_iushr C X at_45 46 rfl ?_
  refine o_iconst C X at_46 47 rfl (3 : Int32) (by decide) ?_
  refine o_iand C X at_47 48 rfl ?_
  refine o_istore C X at_48 50 rfl #[.val (.int x0), .val (.int x1), .val (.int x2), .val (.int x3), .val (.int f1), .val (.int l1), .val (.int g2), .val (.int f2), .val (.int l2), .val (.int ((ushr x2 (2 : Int32)) &&& (3 : Int32))), .unset, .unset, .unset, .unset, .unset, .unset, .unset, .unset, .unset, .unset, .unset, .unset, .unset, .unset, .unset, .unset, .unset, .unset, .unset, .unset] rfl ?_
  refine o_iload C X at_50 52 rfl rfl ?_
  refine o_iconst C X at_52 53 rfl (1 : Int32) (by decide) ?_
  refine o_iadd C X at_53 54 rfl ?_
  refine o_iload C X at_54 56 rfl rfl ?_
  refine o_iadd C X at_56 57 rfl ?_
  refine o_istore C X at_57 59 rfl #[.val (.int x0), .val (.int x1), .val (.int x2), .val (.int x3), .val (.int f1), .val (.int l1), .val (.int g2), .val (.int f2), .val (.int l2), .val (.int ((ushr x2 (2 : Int32)) &&& (3 : Int32))), .val (.int ((l2 + (1 : Int32)) + ((ushr x2 (2 : Int32)) &&& (3 : Int32)))), .unset, .unset, .unset, .unset, .unset, .unset, .unset, .unset, .unset, .unset, .unset, .unset, .unset, .unset, .unset, .unset, .unset, .unset, .unset] rfl ?_
  have y3 := own_gap (l := l2) (z := (ushr x2 (2 : Int32))) (by omega) (by omega)
  generalize hg3 : ((ushr x2 (2 : Int32)) &&& (3 : Int32)) = g3
  generalize hf3 : ((l2 + (1 : Int32)) + g3) = f3
  rw [hg3] at y3
  rw [hf3] at y3
  refine o_iload C X at_59 61 rfl rfl ?_
  refine o_iloadN C X at_61 62 rfl rfl ?_
  refine o_bipush C X at_62 64 rfl (8 : Int32) (by decide) ?_
  refine o_iushr C X at_64 65 rfl ?_
  refine o_bipush C X at_65 67 rfl (15 : Int32) (by decide) ?_
  refine o_iand C X at_67 68 rfl ?_
  refine o_iadd C X at_68 69 rfl ?_
  refine o_istore C X at_69 71 rfl #[.val (.int x0), .val (.int x1), .val (.int x2), .val (.int x3), .val (.int f1), .val (.int l1), .val (.int g2), .val (.int f2), .val (.int l2), .val (.int g3), .val (.int f3), .val (.int (f3 + ((ushr x1 (8 : Int32)) &&& (15 : Int32)))), .unset, .unset, .unset, .unset, .unset, .unset, .unset, .unset, .unset, .unset, .unset, .unset, .unset, .unset, .unset, .unset, .unset, .unset] rfl ?_
  have z3 := own_len (f := f3) (z := (ushr x1 (8 : Int32))) (by omega) (by omega)
  generalize hl3 : (f3 + ((ushr x1 (8 : Int32)) &&& (15 : Int32))) = l3
  rw [hl3] at z3
  refine o_iloadN C X at_71 72 rfl rfl ?_
  refine o_iconst C X at_72 73 rfl (4 : Int32) (by decide) ?_
  refine o_iushr C X at_73 74 rfl ?_
  refine o_iconst C X at_74 75 rfl (3 : Int32) (by decide) ?_
  refine o_iand C X at_75 76 rfl ?_
  refine o_istore C X at_76 78 rfl #[.val (.int x0), .val (.int x1), .val (.int x2), .val (.int x3), .val (.int f1), .val (.int l1), .val (.int g2), .val (.int f2), .val (.int l2), .val (.int g3), .val (.int f3), .val (.int l3), .val (.int ((ushr x2 (4 : Int32)) &&& (3 : Int32))), .unset, .unset, .unset, .unset, .unset, .unset, .unset, .unset, .unset, .unset, .unset, .unset, .unset, .unset, .unset, .unset, .unset] rfl ?_
  refine o_iload C X at_78 80 rfl rfl ?_
  refine o_iconst C X at_80 81 rfl (1 : Int32) (by decide) ?_
  refine o_iadd C X at_81 82 rfl ?_
  refine o_iload C X at_82 84 rfl rfl ?_
  refine o_iadd C X at_84 85 rfl ?_
  refine o_istore C X at_85 87 rfl #[.val (.int x0), .val (.int x1), .val (.int x2), .val (.int x3), .val (.int f1), .val (.int l1), .val (.int g2), .val (.int f2), .val (.int l2), .val (.int g3), .val (.int f3), .val (.int l3), .val (.int ((ushr x2 (4 : Int32)) &&& (3 : Int32))), .val (.int ((l3 + (1 : Int32)) + ((ushr x2 (4 : Int32)) &&& (3 : Int32)))), .unset, .unset, .unset, .unset, .unset, .unset, .unset, .unset, .unset, .unset, .unset, .unset, .unset, .unset, .unset, .unset] rfl ?_
  have y4 := own_gap (l := l3) (z := (ushr x2 (4 : Int32))) (by omega) (by omega)
  generalize hg4 : ((ushr x2 (4 : Int32)) &&& (3 : Int32)) = g4
  generalize hf4 : ((l3 + (1 : Int32)) + g4) = f4
  rw [hg4] at y4
  rw [hf4] at y4
  refine o_iload C X at_87 89 rfl rfl ?_
  refine o_iloadN C X at_89 90 rfl rfl ?_
  refine o_bipush C X at_90 92 rfl (12 : Int32) (by decide) ?_
  refine o_iushr C X at_92 93 rfl ?_
  refine o_bipush C X at_93 95 rfl (15 : Int32) (by decide) ?_
  refine o_iand C X at_95 96 rfl ?_
  refine o_iadd C X at_96 97 rfl ?_
  refine o_istore C X at_97 99 rfl #[.val (.int x0), .val (.int x1), .val (.int x2), .val (.int x3), .val (.int f1), .val (.int l1), .val (.int g2), .val (.int f2), .val (.int l2), .val (.int g3), .val (.int f3), .val (.int l3), .val (.int g4), .val (.int f4), .val (.int (f4 + ((ushr x1 (12 : Int32)) &&& (15 : Int32)))), .unset, .unset, .unset, .unset, .unset, .unset, .unset, .unset, .unset, .unset, .unset, .unset, .unset, .unset, .unset] rfl ?_
  have z4 := own_len (f := f4) (z := (ushr x1 (12 : Int32))) (by omega) (by omega)
  generalize hl4 : (f4 + ((ushr x1 (12 : Int32)) &&& (15 : Int32))) = l4
  rw [hl4] at z4
  refine o_iloadN C X at_99 100 rfl rfl ?_
  refine o_bipush C X at_100 102 rfl (6 : Int32) (by decide) ?_
  refine o_iushr C X at_102 103 rfl ?_
  refine o_iconst C X at_103 104 rfl (3 : Int32) (by decide) ?_
  refine o_iand C X at_104 105 rfl ?_
  refine o_istore C X at_105 107 rfl #[.val (.int x0), .val (.int x1), .val (.int x2), .val (.int x3), .val (.int f1), .val (.int l1), .val (.int g2), .val (.int f2), .val (.int l2), .val (.int g3), .val (.int f3), .val (.int l3), .val (.int g4), .val (.int f4), .val (.int l4), .val (.int ((ushr x2 (6 : Int32)) &&& (3 : Int32))), .unset, .unset, .unset, .unset, .unset, .unset, .unset, .unset, .unset, .unset, .unset, .unset, .unset, .unset] rfl ?_
  refine o_iload C X at_107 109 rfl rfl ?_
  refine o_iconst C X at_109 110 rfl (1 : Int32) (by decide) ?_
  refine o_iadd C X at_110 111 rfl ?_
  refine o_iload C X at_111 113 rfl rfl ?_
  refine o_iadd C X at_113 114 rfl ?_
  refine o_istore C X at_114 116 rfl #[.val (.int x0), .val (.int x1), .val (.int x2), .val (.int x3), .val (.int f1), .val (.int l1), .val (.int g2), .val (.int f2), .val (.int l2), .val (.int g3), .val (.int f3), .val (.int l3), .val (.int g4), .val (.int f4), .val (.int l4), .val (.int ((ushr x2 (6 : Int32)) &&& (3 : Int32))), .val (.int ((l4 + (1 : Int32)) + ((ushr x2 (6 : Int32)) &&& (3 : Int32)))), .unset, .unset, .unset, .unset, .unset, .unset, .unset, .unset, .unset, .unset, .unset, .unset, .unset] rfl ?_
  have y5 := own_gap (l := l4) (z := (ushr x2 (6 : Int32))) (by omega) (by omega)
  generalize hg5 : ((ushr x2 (6 : Int32)) &&& (3 : Int32)) = g5
  generalize hf5 : ((l4 + (1 : Int32)) + g5) = f5
  rw [hg5] at y5
  rw [hf5] at y5
  refine o_iload C X at_116 118 rfl rfl ?_
  refine o_iloadN C X at_118 119 rfl rfl ?_
  refine o_bipush C X at_119 121 rfl (16 : Int32) (by decide) ?_
  refine o_iushr C X at_121 122 rfl ?_
  refine o_bipush C X at_122 124 rfl (15 : Int32) (by decide) ?_
  refine o_iand C X at_124 125 rfl ?_
  refine o_iadd C X at_125 126 rfl ?_
  refine o_istore C X at_126 128 rfl #[.val (.int x0), .val (.int x1), .val (.int x2), .val (.int x3), .val (.int f1), .val (.int l1), .val (.int g2), .val (.int f2), .val (.int l2), .val (.int g3), .val (.int f3), .val (.int l3), .val (.int g4), .val (.int f4), .val (.int l4), .val (.int g5), .val (.int f5), .val (.int (f5 + ((ushr x1 (16 : Int32)) &&& (15 : Int32)))), .unset, .unset, .unset, .unset, .unset, .unset, .unset, .unset, .unset, .unset, .unset, .unset] rfl ?_
  have z5 := own_len (f := f5) (z := (ushr x1 (16 : Int32))) (by omega) (by omega)
  generalize hl5 : (f5 + ((ushr x1 (16 : Int32)) &&& (15 : Int32))) = l5
  rw [hl5] at z5
  refine o_iloadN C X at_128 129 rfl rfl ?_
  refine o_bipush C X at_129 131 rfl (8 : Int32) (by decide) ?_
  refine o_iushr C X at_131 132 rfl ?_
  refine o_iconst C X at_132 133 rfl (3 : Int32) (by decide) ?_
  refine o_iand C X at_133 134 rfl ?_
  refine o_istore C X at_134 136 rfl #[.val (.int x0), .val (.int x1), .val (.int x2), .val (.int x3), .val (.int f1), .val (.int l1), .val (.int g2), .val (.int f2), .val (.int l2), .val (.int g3), .val (.int f3), .val (.int l3), .val (.int g4), .val (.int f4), .val (.int l4), .val (.int g5), .val (.int f5), .val (.int l5), .val (.int ((ushr x2 (8 : Int32)) &&& (3 : Int32))), .unset, .unset, .unset, .unset, .unset, .unset, .unset, .unset, .unset, .unset, .unset] rfl ?_
  refine o_iload C X at_136 138 rfl rfl ?_
  refine o_iconst C X at_138 139 rfl (1 : Int32) (by decide) ?_
  refine o_iadd C X at_139 140 rfl ?_
  refine o_iload C X at_140 142 rfl rfl ?_
  refine o_iadd C X at_142 143 rfl ?_
  refine o_istore C X at_143 145 rfl #[.val (.int x0), .val (.int x1), .val (.int x2), .val (.int x3), .val (.int f1), .val (.int l1), .val (.int g2), .val (.int f2), .val (.int l2), .val (.int g3), .val (.int f3), .val (.int l3), .val (.int g4), .val (.int f4), .val (.int l4), .val (.int g5), .val (.int f5), .val (.int l5), .val (.int ((ushr x2 (8 : Int32)) &&& (3 : Int32))), .val (.int ((l5 + (1 : Int32)) + ((ushr x2 (8 : Int32)) &&& (3 : Int32)))), .unset, .unset, .unset, .unset, .unset, .unset, .unset, .unset, .unset, .unset] rfl ?_
  have y6 := own_gap (l := l5) (z := (ushr x2 (8 : Int32))) (by omega) (by omega)
  generalize hg6 : ((ushr x2 (8 : Int32)) &&& (3 : Int32)) = g6
  generalize hf6 : ((l5 + (1 : Int32)) + g6) = f6
  rw [hg6] at y6
  rw [hf6] at y6
  refine o_iload C X at_145 147 rfl rfl ?_
  refine o_iloadN C X at_147 148 rfl rfl ?_
  refine o_bipush C X at_148 150 rfl (20 : Int32) (by decide) ?_
  refine o_iushr C X at_150 151 rfl ?_
  refine o_bipush C X at_151 153 rfl (15 : Int32) (by decide) ?_
  refine o_iand C X at_153 154 rfl ?_
  refine o_iadd C X at_154 155 rfl ?_
  refine o_istore C X at_155 157 rfl #[.val (.int x0), .val (.int x1), .val (.int x2), .val (.int x3), .val (.int f1), .val (.int l1), .val (.int g2), .val (.int f2), .val (.int l2), .val (.int g3), .val (.int f3), .val (.int l3), .val (.int g4), .val (.int f4), .val (.int l4), .val (.int g5), .val (.int f5), .val (.int l5), .val (.int g6), .val (.int f6), .val (.int (f6 + ((ushr x1 (20 : Int32)) &&& (15 : Int32)))), .unset, .unset, .unset, .unset, .unset, .unset, .unset, .unset, .unset] rfl ?_
  have z6 := own_len (f := f6) (z := (ushr x1 (20 : Int32))) (by omega) (by omega)
  generalize hl6 : (f6 + ((ushr x1 (20 : Int32)) &&& (15 : Int32))) = l6
  rw [hl6] at z6
  refine o_iload C X at_157 159 rfl rfl ?_
  refine o_iconst C X at_159 160 rfl (2 : Int32) (by decide) ?_
  refine o_isub C X at_160 161 rfl ?_
  refine o_iloadN C X at_161 162 rfl rfl ?_
  refine o_ldcI C X hZ hown (hw _ (List.mem_of_getElem? (i := 0) rfl)) at_162 164 rfl ?_
  refine o_iand C X at_164 165 rfl ?_
  refine o_bipush C X at_165 167 rfl (116 : Int32) (by decide) ?_
  refine o_irem C X at_167 168 rfl (by decide) ?_
  refine o_iadd C X at_168 169 rfl ?_
  refine o_istore C X at_169 171 rfl #[.val (.int x0), .val (.int x1), .val (.int x2), .val (.int x3), .val (.int f1), .val (.int l1), .val (.int g2), .val (.int f2), .val (.int l2), .val (.int g3), .val (.int f3), .val (.int l3), .val (.int g4), .val (.int f4), .val (.int l4), .val (.int g5), .val (.int f5), .val (.int l5), .val (.int g6), .val (.int f6), .val (.int l6), .val (.int ((f1 - (2 : Int32)) + ((x3 &&& (2147483647 : Int32)) % (116 : Int32)))), .unset, .unset, .unset, .unset, .unset, .unset, .unset, .unset] rfl ?_
  generalize hpp : ((f1 - (2 : Int32)) + ((x3 &&& (2147483647 : Int32)) % (116 : Int32))) = pp
  refine o_new C X hZ hown (hw _ (List.mem_of_getElem? (i := 2) rfl)) (hw _ (List.mem_of_getElem? (i := 3) rfl)) (hw _ (List.mem_of_getElem? (i := 4) rfl)) e0 at_171 (by decide) (by decide) 174 rfl ?_
  intro T h_1 a g_a X e_1 E_1 A_1 D_1
  have ge_a : n0 ≤ a := by rw [g_a]; exact Z0
  have Z_1 : n0 ≤ h_1.size := Nat.le_trans Z0 E_1.1
  have Pa_1 : BD Z h_1 a .null (.int (0 : Int32)) := ⟨A_1, D_1 (Or.inl (hw _ (List.mem_of_getElem? (i := 13) rfl))) (ty := (.array .int)) (by decide), D_1 (Or.inl (hw _ (List.mem_of_getElem? (i := 20) rfl))) (ty := .int) (by decide)⟩
  refine o_dup C X at_174 175 rfl rfl ?_
  refine o_callI C X hZ (by rw [hml]; rfl) (own := "com/example/scanloom/scanloom/lexer/BuilderAddPinLaw") (y := (⟨"com/example/scanloom/scanloom/lexer/CodePointSet$Builder", "<init>", "()V"⟩ : MethodName)) hown rfl (hw _ (List.mem_of_getElem? (i := 5) rfl)) (hw _ (List.mem_of_getElem? (i := 6) rfl)) (hw _ (List.mem_of_getElem? (i := 4) rfl)) (hw _ (List.mem_of_getElem? (i := 7) rfl)) (by decide) (asL := []) (a := a) (rm1 l Z a0 hw a h_1 n0 Z_1 ge_a Pa_1) e_1 pd_3 rfl rfl 1 (Nat.le_of_eq rfl) (by decide) (by decide) (by decide) (by decide) at_175 178 rfl ?_
  rintro T h_2 _ L_2 X e_2 ⟨r_2, rfl, N_2, K_2, ge_2, ne_2, P_2, A_2, Ex_2⟩
  have N0 := Fr.app N0 N_2
  have Z_2 : n0 ≤ h_2.size := Nat.le_trans Z_1 K_2.1
  refine o_astore C X at_178 180 rfl rfl #[.val (.int x0), .val (.int x1), .val (.int x2), .val (.int x3), .val (.int f1), .val (.int l1), .val (.int g2), .val (.int f2), .val (.int l2), .val (.int g3), .val (.int f3), .val (.int l3), .val (.int g4), .val (.int f4), .val (.int l4), .val (.int g5), .val (.int f5), .val (.int l5), .val (.int g6), .val (.int f6), .val (.int l6), .val (.int pp), .val (.ref a), .unset, .unset, .unset, .unset, .unset, .unset, .unset] rfl ?_
  refine o_aload C X at_180 182 rfl rfl rfl ?_
  refine o_iload C X at_182 184 rfl rfl ?_
  refine o_iload C X at_184 186 rfl rfl ?_
  refine o_callV C X hZ (by rw [hml]; rfl) (own := "com/example/scanloom/scanloom/lexer/BuilderAddPinLaw") (y := (⟨"com/example/scanloom/scanloom/lexer/CodePointSet$Builder", "add", "(II)Lcom/example/scanloom/scanloom/lexer/CodePointSet$Builder;"⟩ : MethodName)) hown (hw _ (List.mem_of_getElem? (i := 14) rfl)) (hw _ (List.mem_of_getElem? (i := 15) rfl)) (hw _ (List.mem_of_getElem? (i := 17) rfl)) (hw _ (List.mem_of_getElem? (i := 16) rfl)) (hw _ (List.mem_of_getElem? (i := 4) rfl)) (hw _ (List.mem_of_getElem? (i := 18) rfl)) (by decide) (asL := [(.int f1), (.int l1)]) (a := a) (rm3 l Z a0 hw a r_2 f1 l1 (0 : Int32) (fun _ => 0) 0 8 h_2 n0 Z_2 ge_a ge_2 ne_2 rfl (Or.inl rfl) (by decide) (by decide) rfl P_2 A_2 Ex_2) e_2 P_2.1 pd_4 rfl rfl 0 (Nat.le_of_eq rfl) (by decide) (by decide) (by decide) (by decide) at_186 189 rfl ?_
  rintro T h_3 _ L_3 X e_3 ⟨r_3, cap_3, n_3, k_3, g_3, rfl, N_3, K_3, ge_3, ne_3, P_3, hk_3, A_3, Ex_3, hc_3, hn_3, ad_3⟩
  have N0 := Fr.app N0 N_3
  have Z_3 : n0 ≤ h_3.size := Nat.le_trans Z_2 K_3.1
  obtain ⟨I1, m1⟩ := own_first ad_3 (by omega)
  have q1 : n_3 ≤ 2 ∧ n_3 % 2 = 0 := ⟨by omega, I1.1⟩
  refine o_aload C X at_189 191 rfl rfl rfl ?_
  refine o_acmpSame C X at_191 (by decide) 194 rfl ?_
  refine o_iconst C X at_194 195 rfl (1 : Int32) (by decide) ?_
  refine o_goto C X at_195 199 (by decide) (by decide) ?_
  refine o_istore C X at_199 201 rfl #[.val (.int x0), .val (.int x1), .val (.int x2), .val (.int x3), .val (.int f1), .val (.int l1), .val (.int g2), .val (.int f2), .val (.int l2), .val (.int g3), .val (.int f3), .val (.int l3), .val (.int g4), .val (.int f4), .val (.int l4), .val (.int g5), .val (.int f5), .val (.int l5), .val (.int g6), .val (.int f6), .val (.int l6), .val (.int pp), .val (.ref a), .val (.int (1 : Int32)), .unset, .unset, .unset, .unset, .unset, .unset] rfl ?_
  refine o_iload C X at_201 203 rfl rfl ?_
  refine o_aload C X at_203 205 rfl rfl rfl ?_
  refine o_iload C X at_205 207 rfl rfl ?_
  refine o_iload C X at_207 209 rfl rfl ?_
  refine o_callV C X hZ (by rw [hml]; rfl) (own := "com/example/scanloom/scanloom/lexer/BuilderAddPinLaw") (y := (⟨"com/example/scanloom/scanloom/lexer/CodePointSet$Builder", "add", "(II)Lcom/example/scanloom/scanloom/lexer/CodePointSet$Builder;"⟩ : MethodName)) hown (hw _ (List.mem_of_getElem? (i := 14) rfl)) (hw _ (List.mem_of_getElem? (i := 15) rfl)) (hw _ (List.mem_of_getElem? (i := 17) rfl)) (hw _ (List.mem_of_getElem? (i := 16) rfl)) (hw _ (List.mem_of_getElem? (i := 4) rfl)) (hw _ (List.mem_of_getElem? (i := 18) rfl)) (by decide) (asL := [(.int f2), (.int l2)]) (a := a) (rm3 l Z a0 hw a r_3 f2 l2 k_3 g_3 n_3 cap_3 h_3 n0 Z_3 ge_a ge_3 ne_3 hk_3 hc_3 hn_3 (by have := q1.1; omega) q1.2 P_3 A_3 Ex_3) e_3 P_3.1 pd_4 rfl rfl 1 (Nat.le_of_eq rfl) (by decide) (by decide) (by decide) (by decide) at_209 212 rfl ?_
  rintro T h_4 _ L_4 X e_4 ⟨r_4, cap_4, n_4, k_4, g_4, rfl, N_4, K_4, ge_4, ne_4, P_4, hk_4, A_4, Ex_4, hc_4, hn_4, ad_4⟩
  have N0 := Fr.app N0 N_4
  have Z_4 : n0 ≤ h_4.size := Nat.le_trans Z_3 K_4.1
  obtain ⟨I2, m2⟩ := own_next I1 ad_4 (d := g2.toInt) (by omega) (by omega) (by omega) (by omega) (by omega)
  have q2 : n_4 ≤ 4 ∧ n_4 % 2 = 0 := ⟨by have := q1.1; split at m2 <;> omega, I2.1⟩
  refine o_aload C X at_212 214 rfl rfl rfl ?_
  refine o_acmpSame C X at_214 (by decide) 217 rfl ?_
  refine o_iconst C X at_217 218 rfl (1 : Int32) (by decide) ?_
  refine o_goto C X at_218 222 (by decide) (by decide) ?_
  refine o_iand C X at_222 223 rfl ?_
  refine o_istore C X at_223 225 rfl #[.val (.int x0), .val (.int x1), .val (.int x2), .val (.int x3), .val (.int f1), .val (.int l1), .val (.int g2), .val (.int f2), .val (.int l2), .val (.int g3), .val (.int f3), .val (.int l3), .val (.int g4), .val (.int f4), .val (.int l4), .val (.int g5), .val (.int f5), .val (.int l5), .val (.int g6), .val (.int f6), .val (.int l6), .val (.int pp), .val (.ref a), .val (.int ((1 : Int32) &&& (1 : Int32))), .unset, .unset, .unset, .unset, .unset, .unset] rfl ?_
  refine o_iload C X at_225 227 rfl rfl ?_
  refine o_aload C X at_227 229 rfl rfl rfl ?_
  refine o_iload C X at_229 231 rfl rfl ?_
  refine o_iload C X at_231 233 rfl rfl ?_
  refine o_callV C X hZ (by rw [hml]; rfl) (own := "com/example/scanloom/scanloom/lexer/BuilderAddPinLaw") (y := (⟨"com/example/scanloom/scanloom/lexer/CodePointSet$Builder", "add", "(II)Lcom/example/scanloom/scanloom/lexer/CodePointSet$Builder;"⟩ : MethodName)) hown (hw _ (List.mem_of_getElem? (i := 14) rfl)) (hw _ (List.mem_of_getElem? (i := 15) rfl)) (hw _ (List.mem_of_getElem? (i := 17) rfl)) (hw _ (List.mem_of_getElem? (i := 16) rfl)) (hw _ (List.mem_of_getElem? (i := 4) rfl)) (hw _ (List.mem_of_getElem? (i := 18) rfl)) (by decide) (asL := [(.int f3), (.int l3)]) (a := a) (rm3 l Z a0 hw a r_4 f3 l3 k_4 g_4 n_4 cap_4 h_4 n0 Z_4 ge_a ge_4 ne_4 hk_4 hc_4 hn_4 (by have := q2.1; omega) q2.2 P_4 A_4 Ex_4) e_4 P_4.1 pd_4 rfl rfl 1 (Nat.le_of_eq rfl) (by decide) (by decide) (by decide) (by decide) at_233 236 rfl ?_
  rintro T h_5 _ L_5 X e_5 ⟨r_5, cap_5, n_5, k_5, g_5, rfl, N_5, K_5, ge_5, ne_5, P_5, hk_5, A_5, Ex_5, hc_5, hn_5, ad_5⟩
  have N0 := Fr.app N0 N_5
  have Z_5 : n0 ≤ h_5.size := Nat.le_trans Z_4 K_5.1
  obtain ⟨I3, m3⟩ := own_next I2 ad_5 (d := g3.toInt) (by omega) (by omega) (by omega) (by omega) (by omega)
  have q3 : n_5 ≤ 6 ∧ n_5 % 2 = 0 := ⟨by have := q2.1; split at m3 <;> omega, I3.1⟩
  refine o_aload C X at_236 238 rfl rfl rfl ?_
  refine o_acmpSame C X at_238 (by decide) 241 rfl ?_
  refine o_iconst C X at_241 242 rfl (1 : Int32) (by decide) ?_
  refine o_goto C X at_242 246 (by decide) (by decide) ?_
  refine o_iand C X at_246 247 rfl ?_
  refine o_istore C X at_247 249 rfl #[.val (.int x0), .val (.int x1), .val (.int x2), .val (.int x3), .val (.int f1), .val (.int l1), .val (.int g2), .val (.int f2), .val (.int l2), .val (.int g3), .val (.int f3), .val (.int l3), .val (.int g4), .val (.int f4), .val (.int l4), .val (.int g5), .val (.int f5), .val (.int l5), .val (.int g6), .val (.int f6), .val (.int l6), .val (.int pp), .val (.ref a), .val (.int (((1 : Int32) &&& (1 : Int32)) &&& (1 : Int32))), .unset, .unset, .unset, .unset, .unset, .unset] rfl ?_
  refine o_iload C X at_249 251 rfl rfl ?_
  refine o_aload C X at_251 253 rfl rfl rfl ?_
  refine o_iload C X at_253 255 rfl rfl ?_
  refine o_iload C X at_255 257 rfl rfl ?_
  refine o_callV C X hZ (by rw [hml]; rfl) (own := "com/example/scanloom/scanloom/lexer/BuilderAddPinLaw") (y := (⟨"com/example/scanloom/scanloom/lexer/CodePointSet$Builder", "add", "(II)Lcom/example/scanloom/scanloom/lexer/CodePointSet$Builder;"⟩ : MethodName)) hown (hw _ (List.mem_of_getElem? (i := 14) rfl)) (hw _ (List.mem_of_getElem? (i := 15) rfl)) (hw _ (List.mem_of_getElem? (i := 17) rfl)) (hw _ (List.mem_of_getElem? (i := 16) rfl)) (hw _ (List.mem_of_getElem? (i := 4) rfl)) (hw _ (List.mem_of_getElem? (i := 18) rfl)) (by decide) (asL := [(.int f4), (.int l4)]) (a := a) (rm3 l Z a0 hw a r_5 f4 l4 k_5 g_5 n_5 cap_5 h_5 n0 Z_5 ge_a ge_5 ne_5 hk_5 hc_5 hn_5 (by have := q3.1; omega) q3.2 P_5 A_5 Ex_5) e_5 P_5.1 pd_4 rfl rfl 1 (Nat.le_of_eq rfl) (by decide) (by decide) (by decide) (by decide) at_257 260 rfl ?_
  rintro T h_6 _ L_6 X e_6 ⟨r_6, cap_6, n_6, k_6, g_6, rfl, N_6, K_6, ge_6, ne_6, P_6, hk_6, A_6, Ex_6, hc_6, hn_6, ad_6⟩
  have N0 := Fr.app N0 N_6
  have Z_6 : n0 ≤ h_6.size := Nat.le_trans Z_5 K_6.1
  obtain ⟨I4, m4⟩ := own_next I3 ad_6 (d := g4.toInt) (by omega) (by omega) (by omega) (by omega) (by omega)
  have q4 : n_6 ≤ 8 ∧ n_6 % 2 = 0 := ⟨by have := q3.1; split at m4 <;> omega, I4.1⟩
  refine o_aload C X at_260 262 rfl rfl rfl ?_
  refine o_acmpSame C X at_262 (by decide) 265 rfl ?_
  refine o_iconst C X at_265 266 rfl (1 : Int32) (by decide) ?_
  refine o_goto C X at_266 270 (by decide) (by decide) ?_
  refine o_iand C X at_270 271 rfl ?_
  refine o_istore C X at_271 273 rfl #[.val (.int x0), .val (.int x1), .val (.int x2), .val (.int x3), .val (.int f1), .val (.int l1), .val (.int g2), .val (.int f2), .val (.int l2), .val (.int g3), .val (.int f3), .val (.int l3), .val (.int g4), .val (.int f4), .val (.int l4), .val (.int g5), .val (.int f5), .val (.int l5), .val (.int g6), .val (.int f6), .val (.int l6), .val (.int pp), .val (.ref a), .val (.int ((((1 : Int32) &&& (1 : Int32)) &&& (1 : Int32)) &&& (1 : Int32))), .unset, .unset, .unset, .unset, .unset, .unset] rfl ?_
  refine o_iload C X at_273 275 rfl rfl ?_
  refine o_aload C X at_275 277 rfl rfl rfl ?_
  refine o_iload C X at_277 279 rfl rfl ?_
  refine o_iload C X at_279 281 rfl rfl ?_
  refine o_callV C X hZ (by rw [hml]; rfl) (own := "com/example/scanloom/scanloom/lexer/BuilderAddPinLaw") (y := (⟨"com/example/scanloom/scanloom/lexer/CodePointSet$Builder", "add", "(II)Lcom/example/scanloom/scanloom/lexer/CodePointSet$Builder;"⟩ : MethodName)) hown (hw _ (List.mem_of_getElem? (i := 14) rfl)) (hw _ (List.mem_of_getElem? (i := 15) rfl)) (hw _ (List.mem_of_getElem? (i := 17) rfl)) (hw _ (List.mem_of_getElem? (i := 16) rfl)) (hw _ (List.mem_of_getElem? (i := 4) rfl)) (hw _ (List.mem_of_getElem? (i := 18) rfl)) (by decide) (asL := [(.int f5), (.int l5)]) (a := a) (rm3 l Z a0 hw a r_6 f5 l5 k_6 g_6 n_6 cap_6 h_6 n0 Z_6 ge_a ge_6 ne_6 hk_6 hc_6 hn_6 (by have := q4.1; omega) q4.2 P_6 A_6 Ex_6) e_6 P_6.1 pd_4 rfl rfl 1 (Nat.le_of_eq rfl) (by decide) (by decide) (by decide) (by decide) at_281 284 rfl ?_
  rintro T h_7 _ L_7 X e_7 ⟨r_7, cap_7, n_7, k_7, g_7, rfl, N_7, K_7, ge_7, ne_7, P_7, hk_7, A_7, Ex_7, hc_7, hn_7, ad_7⟩
  have N0 := Fr.app N0 N_7
  have Z_7 : n0 ≤ h_7.size := Nat.le_trans Z_6 K_7.1
  obtain ⟨I5, m5⟩ := own_next I4 ad_7 (d := g5.toInt) (by omega) (by omega) (by omega) (by omega) (by omega)
  have q5 : n_7 ≤ 10 ∧ n_7 % 2 = 0 := ⟨by have := q4.1; split at m5 <;> omega, I5.1⟩
  refine o_aload C X at_284 286 rfl rfl rfl ?_
  refine o_acmpSame C X at_286 (by decide) 289 rfl ?_
  refine o_iconst C X at_289 290 rfl (1 : Int32) (by decide) ?_
  refine o_goto C X at_290 294 (by decide) (by decide) ?_
  refine o_iand C X at_294 295 rfl ?_
  refine o_istore C X at_295 297 rfl #[.val (.int x0), .val (.int x1), .val (.int x2), .val (.int x3), .val (.int f1), .val (.int l1), .val (.int g2), .val (.int f2), .val (.int l2), .val (.int g3), .val (.int f3), .val (.int l3), .val (.int g4), .val (.int f4), .val (.int l4), .val (.int g5), .val (.int f5), .val (.int l5), .val (.int g6), .val (.int f6), .val (.int l6), .val (.int pp), .val (.ref a), .val (.int (((((1 : Int32) &&& (1 : Int32)) &&& (1 : Int32)) &&& (1 : Int32)) &&& (1 : Int32))), .unset, .unset, .unset, .unset, .unset, .unset] rfl ?_
  refine o_iload C X at_297 299 rfl rfl ?_
  refine o_aload C X at_299 301 rfl rfl rfl ?_
  refine o_iload C X at_301 303 rfl rfl ?_
  refine o_iload C X at_303 305 rfl rfl ?_
  refine o_callV C X hZ (by rw [hml]; rfl) (own := "com/example/scanloom/scanloom/lexer/BuilderAddPinLaw") (y := (⟨"com/example/scanloom/scanloom/lexer/CodePointSet$Builder", "add", "(II)Lcom/example/scanloom/scanloom/lexer/CodePointSet$Builder;"⟩ : MethodName)) hown (hw _ (List.mem_of_getElem? (i := 14) rfl)) (hw _ (List.mem_of_getElem? (i := 15) rfl)) (hw _ (List.mem_of_getElem? (i := 17) rfl)) (hw _ (List.mem_of_getElem? (i := 16) rfl)) (hw _ (List.mem_of_getElem? (i := 4) rfl)) (hw _ (List.mem_of_getElem? (i := 18) rfl)) (by decide) (asL := [(.int f6), (.int l6)]) (a := a) (rm3 l Z a0 hw a r_7 f6 l6 k_7 g_7 n_7 cap_7 h_7 n0 Z_7 ge_a ge_7 ne_7 hk_7 hc_7 hn_7 (by have := q5.1; omega) q5.2 P_7 A_7 Ex_7) e_7 P_7.1 pd_4 rfl rfl 1 (Nat.le_of_eq rfl) (by decide) (by decide) (by decide) (by decide) at_305 308 rfl ?_
  rintro T h_8 _ L_8 X e_8 ⟨r_8, cap_8, n_8, k_8, g_8, rfl, N_8, K_8, ge_8, ne_8, P_8, hk_8, A_8, Ex_8, hc_8, hn_8, ad_8⟩
  have N0 := Fr.app N0 N_8
  have Z_8 : n0 ≤ h_8.size := Nat.le_trans Z_7 K_8.1
  obtain ⟨I6, m6⟩ := own_next I5 ad_8 (d := g6.toInt) (by omega) (by omega) (by omega) (by omega) (by omega)
  have q6 : n_8 ≤ 12 ∧ n_8 % 2 = 0 := ⟨by have := q5.1; split at m6 <;> omega, I6.1⟩
  refine o_aload C X at_308 310 rfl rfl rfl ?_
  refine o_acmpSame C X at_310 (by decide) 313 rfl ?_
  refine o_iconst C X at_313 314 rfl (1 : Int32) (by decide) ?_
  refine o_goto C X at_314 318 (by decide) (by decide) ?_
  refine o_iand C X at_318 319 rfl ?_
  refine o_istore C X at_319 321 rfl #[.val (.int x0), .val (.int x1), .val (.int x2), .val (.int x3), .val (.int f1), .val (.int l1), .val (.int g2), .val (.int f2), .val (.int l2), .val (.int g3), .val (.int f3), .val (.int l3), .val (.int g4), .val (.int f4), .val (.int l4), .val (.int g5), .val (.int f5), .val (.int l5), .val (.int g6), .val (.int f6), .val (.int l6), .val (.int pp), .val (.ref a), .val (.int ((((((1 : Int32) &&& (1 : Int32)) &&& (1 : Int32)) &&& (1 : Int32)) &&& (1 : Int32)) &&& (1 : Int32))), .unset, .unset, .unset, .unset, .unset, .unset] rfl ?_
  refine o_aload C X at_321 323 rfl rfl rfl ?_
  refine o_callV C X hZ (by rw [hml]; rfl) (own := "com/example/scanloom/scanloom/lexer/BuilderAddPinLaw") (y := (⟨"com/example/scanloom/scanloom/lexer/CodePointSet$Builder", "build", "()Lcom/example/scanloom/scanloom/lexer/CodePointSet;"⟩ : MethodName)) hown (hw _ (List.mem_of_getElem? (i := 21) rfl)) (hw _ (List.mem_of_getElem? (i := 22) rfl)) (hw _ (List.mem_of_getElem? (i := 24) rfl)) (hw _ (List.mem_of_getElem? (i := 23) rfl)) (hw _ (List.mem_of_getElem? (i := 4) rfl)) (hw _ (List.mem_of_getElem? (i := 25) rfl)) (by decide) (asL := []) (a := a) (rm4 l Z a0 hw a r_8 k_8 g_8 n_8 cap_8 h_8 n0 Z_8 hk_8 (by rcases hc_8 with h | h <;> omega) hn_8 P_8 A_8 Ex_8) e_8 P_8.1 pd_5 rfl rfl 0 (Nat.le_of_eq rfl) (by decide) (by decide) (by decide) (by decide) at_323 326 rfl ?_
  rintro T h_9 _ L_9 X e_9 ⟨s2, r2, gg, rfl, N_9, P_9, A_9, hg_9⟩
  have N0 := Fr.app N0 N_9
  have IV := I6.congr hg_9
  refine o_astore C X at_326 328 rfl rfl #[.val (.int x0), .val (.int x1), .val (.int x2), .val (.int x3), .val (.int f1), .val (.int l1), .val (.int g2), .val (.int f2), .val (.int l2), .val (.int g3), .val (.int f3), .val (.int l3), .val (.int g4), .val (.int f4), .val (.int l4), .val (.int g5), .val (.int f5), .val (.int l5), .val (.int g6), .val (.int f6), .val (.int l6), .val (.int pp), .val (.ref a), .val (.int ((((((1 : Int32) &&& (1 : Int32)) &&& (1 : Int32)) &&& (1 : Int32)) &&& (1 : Int32)) &&& (1 : Int32))), .val (.ref s2), .unset, .unset, .unset, .unset, .unset] rfl ?_
  refine o_aload C X at_328 330 rfl rfl rfl ?_
  refine o_callVP C X hZ (by rw [hml]; rfl) (own := "com/example/scanloom/scanloom/lexer/BuilderAddPinLaw") (y := (⟨"com/example/scanloom/scanloom/lexer/CodePointSet", "ranges", "()[I"⟩ : MethodName)) (rf := 0) (rl := 0) hown (hw _ (List.mem_of_getElem? (i := 47) rfl)) (hw _ (List.mem_of_getElem? (i := 48) rfl)) (hw _ (List.mem_of_getElem? (i := 50) rfl)) (hw _ (List.mem_of_getElem? (i := 49) rfl)) (hw _ (List.mem_of_getElem? (i := 28) rfl)) (hw _ (List.mem_of_getElem? (i := 51) rfl)) (by decide) (asL := []) (a := s2) (rm8 l Z a0 hw s2 r2 h_9 P_9) e_9 P_9.1 pd_6 rfl rfl 0 (Nat.le_of_eq rfl) (by decide) (by decide) (by decide) (by decide) at_330 333 rfl ?_
  intro T X e_9
  refine o_astore C X at_333 335 rfl rfl #[.val (.int x0), .val (.int x1), .val (.int x2), .val (.int x3), .val (.int f1), .val (.int l1), .val (.int g2), .val (.int f2), .val (.int l2), .val (.int g3), .val (.int f3), .val (.int l3), .val (.int g4), .val (.int f4), .val (.int l4), .val (.int g5), .val (.int f5), .val (.int l5), .val (.int g6), .val (.int f6), .val (.int l6), .val (.int pp), .val (.ref a), .val (.int ((((((1 : Int32) &&& (1 : Int32)) &&& (1 : Int32)) &&& (1 : Int32)) &&& (1 : Int32)) &&& (1 : Int32))), .val (.ref s2), .val (.ref r2), .unset, .unset, .unset, .unset] rfl ?_
  refine o_iload C X at_335 337 rfl rfl ?_
  refine Ends.via (T := T) (mkF m 345 #[.val (.int x0), .val (.int x1), .val (.int x2), .val (.int x3), .val (.int f1), .val (.int l1), .val (.int g2), .val (.int f2), .val (.int l2), .val (.int g3), .val (.int f3), .val (.int l3), .val (.int g4), .val (.int f4), .val (.int l4), .val (.int g5), .val (.int f5), .val (.int l5), .val (.int g6), .val (.int f6), .val (.int l6), .val (.int pp), .val (.ref a), .val (.int ((((((1 : Int32) &&& (1 : Int32)) &&& (1 : Int32)) &&& (1 : Int32)) &&& (1 : Int32)) &&& (1 : Int32))), .val (.ref s2), .val (.ref r2), .unset, .unset, .unset, .unset] [(.int (if g2 = (0 : Int32) then (1 : Int32) else (0 : Int32)))]) (fun K0 => ?_) ?_
  · skip
    by_cases q4 : g2 = (0 : Int32)
    · skip
      refine o_ifN C X at_337 340 rfl ((if0 _ _).trans (teq q4).2) ?_
      refine o_iconst C X at_340 341 rfl (1 : Int32) (by decide) ?_
      refine o_goto C X at_341 345 (by decide) (by decide) ?_
      simp only [if_pos q4] at K0
      exact K0
    · skip
      refine o_ifY C X at_337 344 (by decide) (by decide) ((if0 _ _).trans (feq q4).2) ?_
      refine o_iconst C X at_344 345 rfl (0 : Int32) (by decide) ?_
      simp only [if_neg q4] at K0
      exact K0
  refine o_iload C X at_345 347 rfl rfl ?_
  refine Ends.via (T := T) (mkF m 355 #[.val (.int x0), .val (.int x1), .val (.int x2), .val (.int x3), .val (.int f1), .val (.int l1), .val (.int g2), .val (.int f2), .val (.int l2), .val (.int g3), .val (.int f3), .val (.int l3), .val (.int g4), .val (.int f4), .val (.int l4), .val (.int g5), .val (.int f5), .val (.int l5), .val (.int g6), .val (.int f6), .val (.int l6), .val (.int pp), .val (.ref a), .val (.int ((((((1 : Int32) &&& (1 : Int32)) &&& (1 : Int32)) &&& (1 : Int32)) &&& (1 : Int32)) &&& (1 : Int32))), .val (.ref s2), .val (.ref r2), .unset, .unset, .unset, .unset] [(.int (if g3 = (0 : Int32) then (1 : Int32) else (0 : Int32))), (.int (if g2 = (0 : Int32) then (1 : Int32) else (0 : Int32)))]) (fun K0 => ?_) ?_
  · skip
    by_cases q5 : g3 = (0 : Int32)
    · skip
      refine o_ifN C X at_347 350 rfl ((if0 _ _).trans (teq q5).2) ?_
      refine o_iconst C X at_350 351 rfl (1 : Int32) (by decide) ?_
      refine o_goto C X at_351 355 (by decide) (by decide) ?_
      simp only [if_pos q5] at K0
      exact K0
    · skip
      refine o_ifY C X at_347 354 (by decide) (by decide) ((if0 _ _).trans (feq q5).2) ?_
      refine o_iconst C X at_354 355 rfl (0 : Int32) (by decide) ?_
      simp only [if_neg q5] at K0
      exact K0
  refine o_iadd C X at_355 356 rfl ?_
  refine o_iload C X at_356 358 rfl rfl ?_
  refine Ends.via (T := T) (mkF m 366 #[.val (.int x0), .val (.int x1), .val (.int x2), .val (.int x3), .val (.int f1), .val (.int l1), .val (.int g2), .val (.int f2), .val (.int l2), .val (.int g3), .val (.int f3), .val (.int l3), .val (.int g4), .val (.int f4), .val (.int l4), .val (.int g5), .val (.int f5), .val (.int l5), .val (.int g6), .val (.int f6), .val (.int l6), .val (.int pp), .val (.ref a), .val (.int ((((((1 : Int32) &&& (1 : Int32)) &&& (1 : Int32)) &&& (1 : Int32)) &&& (1 : Int32)) &&& (1 : Int32))), .val (.ref s2), .val (.ref r2), .unset, .unset, .unset, .unset] [(.int (if g4 = (0 : Int32) then (1 : Int32) else (0 : Int32))), (.int ((if g2 = (0 : Int32) then (1 : Int32) else (0 : Int32)) + (if g3 = (0 : Int32) then (1 : Int32) else (0 : Int32))))]) (fun K0 => ?_) ?_
  · skip
    by_cases q6 : g4 = (0 : Int32)
    · skip
      refine o_ifN C X at_358 361 rfl ((if0 _ _).trans (teq q6).2) ?_
      refine o_iconst C X at_361 362 rfl (1 : Int32) (by decide) ?_
      refine o_goto C X at_362 366 (by decide) (by decide) ?_
      simp only [if_pos q6] at K0
      exact K0
    · skip
      refine o_ifY C X at_358 365 (by decide) (by decide) ((if0 _ _).trans (feq q6).2) ?_
      refine o_iconst C X at_365 366 rfl (0 : Int32) (by decide) ?_
      simp only [if_neg q6] at K0
      exact K0
  refine o_iadd C X at_366 367 rfl ?_
  refine o_iload C X at_367 369 rfl rfl ?_
  refine Ends.via (T := T) (mkF m 377 #[.val (.int x0), .val (.int x1), .val (.int x2), .val (.int x3), .val (.int f1), .val (.int l1), .val (.int g2), .val (.int f2), .val (.int l2), .val (.int g3), .val (.int f3), .val (.int l3), .val (.int g4), .val (.int f4), .val (.int l4), .val (.int g5), .val (.int f5), .val (.int l5), .val (.int g6), .val (.int f6), .val (.int l6), .val (.int pp), .val (.ref a), .val (.int ((((((1 : Int32) &&& (1 : Int32)) &&& (1 : Int32)) &&& (1 : Int32)) &&& (1 : Int32)) &&& (1 : Int32))), .val (.ref s2), .val (.ref r2), .unset, .unset, .unset, .unset] [(.int (if g5 = (0 : Int32) then (1 : Int32) else (0 : Int32))), (.int (((if g2 = (0 : Int32) then (1 : Int32) else (0 : Int32)) + (if g3 = (0 : Int32) then (1 : Int32) else (0 : Int32))) + (if g4 = (0 : Int32) then (1 : Int32) else (0 : Int32))))]) (fun K0 => ?_) ?_
  · skip
    by_cases q7 : g5 = (0 : Int32)
    · skip
      refine o_ifN C X at_369 372 rfl ((if0 _ _).trans (teq q7).2) ?_
      refine o_iconst C X at_372 373 rfl (1 : Int32) (by decide) ?_
      refine o_goto C X at_373 377 (by decide) (by decide) ?_
      simp only [if_pos q7] at K0
      exact K0
    · skip
      refine o_ifY C X at_369 376 (by decide) (by decide) ((if0 _ _).trans (feq q7).2) ?_
      refine o_iconst C X at_376 377 rfl (0 : Int32) (by decide) ?_
      simp only [if_neg q7] at K0
      exact K0
  refine o_iadd C X at_377 378 rfl ?_
  refine o_iload C X at_378 380 rfl rfl ?_
  refine Ends.via (T := T) (mkF m 388 #[.val (.int x0), .val (.int x1), .val (.int x2), .val (.int x3), .val (.int f1), .val (.int l1), .val (.int g2), .val (.int f2), .val (.int l2), .val (.int g3), .val (.int f3), .val (.int l3), .val (.int g4), .val (.int f4), .val (.int l4), .val (.int g5), .val (.int f5), .val (.int l5), .val (.int g6), .val (.int f6), .val (.int l6), .val (.int pp), .val (.ref a), .val (.int ((((((1 : Int32) &&& (1 : Int32)) &&& (1 : Int32)) &&& (1 : Int32)) &&& (1 : Int32)) &&& (1 : Int32))), .val (.ref s2), .val (.ref r2), .unset, .unset, .unset, .unset] [(.int (if g6 = (0 : Int32) then (1 : Int32) else (0 : Int32))), (.int ((((if g2 = (0 : Int32) then (1 : Int32) else (0 : Int32)) + (if g3 = (0 : Int32) then (1 : Int32) else (0 : Int32))) + (if g4 = (0 : Int32) then (1 : Int32) else (0 : Int32))) + (if g5 = (0 : Int32) then (1 : Int32) else (0 : Int32))))]) (fun K0 => ?_) ?_
  · skip
    by_cases q8 : g6 = (0 : Int32)
    · skip
      refine o_ifN C X at_380 383 rfl ((if0 _ _).trans (teq q8).2) ?_
      refine o_iconst C X at_383 384 rfl (1 : Int32) (by decide) ?_
      refine o_goto C X at_384 388 (by decide) (by decide) ?_
      simp only [if_pos q8] at K0
      exact K0
    · skip
      refine o_ifY C X at_380 387 (by decide) (by decide) ((if0 _ _).trans (feq q8).2) ?_
      refine o_iconst C X at_387 388 rfl (0 : Int32) (by decide) ?_
      simp only [if_neg q8] at K0
      exact K0
  refine o_iadd C X at_388 389 rfl ?_
  refine o_istore C X at_389 391 rfl #[.val (.int x0), .val (.int x1), .val (.int x2), .val (.int x3), .val (.int f1), .val (.int l1), .val (.int g2), .val (.int f2), .val (.int l2), .val (.int g3), .val (.int f3), .val (.int l3), .val (.int g4), .val (.int f4), .val (.int l4), .val (.int g5), .val (.int f5), .val (.int l5), .val (.int g6), .val (.int f6), .val (.int l6), .val (.int pp), .val (.ref a), .val (.int ((((((1 : Int32) &&& (1 : Int32)) &&& (1 : Int32)) &&& (1 : Int32)) &&& (1 : Int32)) &&& (1 : Int32))), .val (.ref s2), .val (.ref r2), .val (.int (((((if g2 = (0 : Int32) then (1 : Int32) else (0 : Int32)) + (if g3 = (0 : Int32) then (1 : Int32) else (0 : Int32))) + (if g4 = (0 : Int32) then (1 : Int32) else (0 : Int32))) + (if g5 = (0 : Int32) then (1 : Int32) else (0 : Int32))) + (if g6 = (0 : Int32) then (1 : Int32) else (0 : Int32)))), .unset, .unset, .unset] rfl ?_
  refine o_aload C X at_391 393 rfl rfl rfl ?_
  refine o_arraylength C X hZ e_9 A_9 (Int32.ofNat n_8) rfl at_393 394 rfl ?_
  refine o_iconst C X at_394 395 rfl (2 : Int32) (by decide) ?_
  refine o_bipush C X at_395 397 rfl (6 : Int32) (by decide) ?_
  refine o_iload C X at_397 399 rfl rfl ?_
  refine o_isub C X at_399 400 rfl ?_
  refine o_imul C X at_400 401 rfl ?_
  have hl6 := own_len6 g2 g3 g4 g5 g6 n_8 (by omega)
  refine o_icmpY C X at_401 406 (by decide) (by decide) (teq hl6).1 ?_
  refine o_aload C X at_406 408 rfl rfl rfl ?_
  refine o_iconst C X at_408 409 rfl (0 : Int32) (by decide) ?_
  obtain ⟨i1, i2, i3, i4, -⟩ := id IV
  have hto : (Int32.ofNat n_8).toInt = n_8 := own_to (by have := q6.1; omega)
  refine o_iaload C X hZ e_9 A_9 (0) rfl (by omega) at_409 410 rfl ?_
  refine o_iload C X at_410 412 rfl rfl ?_
  refine o_icmpN C X at_412 415 rfl (teq (Int32.toInt_inj.mp i3 : (gg 0) = f1)).2 ?_
  refine o_aload C X at_415 417 rfl rfl rfl ?_
  refine o_aload C X at_417 419 rfl rfl rfl ?_
  refine o_arraylength C X hZ e_9 A_9 (Int32.ofNat n_8) rfl at_419 420 rfl ?_
  refine o_iconst C X at_420 421 rfl (1 : Int32) (by decide) ?_
  refine o_isub C X at_421 422 rfl ?_
  refine o_iaload C X hZ e_9 A_9 (n_8 - 1) (own_sub hto rfl (by have := q6.1; omega) (by omega)) (by omega) at_422 423 rfl ?_
  refine o_iload C X at_423 425 rfl rfl ?_
  refine o_icmpN C X at_425 428 rfl (teq (Int32.toInt_inj.mp i4 : (gg (n_8 - 1)) = l6)).2 ?_
  refine o_iconst C X at_428 429 rfl (1 : Int32) (by decide) ?_
  refine o_goto C X at_429 433 (by decide) (by decide) ?_
  refine o_istore C X at_433 435 rfl #[.val (.int x0), .val (.int x1), .val (.int x2), .val (.int x3), .val (.int f1), .val (.int l1), .val (.int g2), .val (.int f2), .val (.int l2), .val (.int g3), .val (.int f3), .val (.int l3), .val (.int g4), .val (.int f4), .val (.int l4), .val (.int g5), .val (.int f5), .val (.int l5), .val (.int g6), .val (.int f6), .val (.int l6), .val (.int pp), .val (.ref a), .val (.int ((((((1 : Int32) &&& (1 : Int32)) &&& (1 : Int32)) &&& (1 : Int32)) &&& (1 : Int32)) &&& (1 : Int32))), .val (.ref s2), .val (.ref r2), .val (.int (((((if g2 = (0 : Int32) then (1 : Int32) else (0 : Int32)) + (if g3 = (0 : Int32) then (1 : Int32) else (0 : Int32))) + (if g4 = (0 : Int32) then (1 : Int32) else (0 : Int32))) + (if g5 = (0 : Int32) then (1 : Int32) else (0 : Int32))) + (if g6 = (0 : Int32) then (1 : Int32) else (0 : Int32)))), .val (.int (1 : Int32)), .unset, .unset] rfl ?_
  refine o_aload C X at_435 437 rfl rfl rfl ?_
  refine o_iconst C X at_437 438 rfl (0 : Int32) (by decide) ?_
  refine o_callP C X hZ (by rw [hml]; rfl) (own := "com/example/scanloom/scanloom/lexer/BuilderAddPinLaw") (y := (⟨"com/example/scanloom/scanloom/lexer/BuilderAddPinLaw", "ok", "([II)Z"⟩ : MethodName)) (rf := 0) (rl := 0) hown (hw _ (List.mem_of_getElem? (i := 52) rfl)) (hw _ (List.mem_of_getElem? (i := 53) rfl)) (hw _ (List.mem_of_getElem? (i := 54) rfl)) (hw _ (List.mem_of_getElem? (i := 55) rfl)) (by decide) (asL := [(.ref r2), (.int (0 : Int32))]) (rm9 l Z a0 hw r2 (0 : Int32) gg n_8 0 h_9 rfl (by decide) (by have := q6.1; omega) i1 rfl (own_ok IV 0).1 (own_ok IV 0).2 A_9) e_9 pd_7 rfl rfl 0 (Nat.le_of_eq rfl) (by decide) (by decide) (by decide) (by decide) at_438 441 rfl ?_
  intro T X e_9
  refine o_ifN C X at_441 444 rfl ((if0 _ _).trans (feq (by decide : ¬ ((1 : Int32) = (0 : Int32)))).1) ?_
  refine o_aload C X at_444 446 rfl rfl rfl ?_
  refine o_iconst C X at_446 447 rfl (2 : Int32) (by decide) ?_
  refine o_callP C X hZ (by rw [hml]; rfl) (own := "com/example/scanloom/scanloom/lexer/BuilderAddPinLaw") (y := (⟨"com/example/scanloom/scanloom/lexer/BuilderAddPinLaw", "ok", "([II)Z"⟩ : MethodName)) (rf := 0) (rl := 0) hown (hw _ (List.mem_of_getElem? (i := 52) rfl)) (hw _ (List.mem_of_getElem? (i := 53) rfl)) (hw _ (List.mem_of_getElem? (i := 54) rfl)) (hw _ (List.mem_of_getElem? (i := 55) rfl)) (by decide) (asL := [(.ref r2), (.int (2 : Int32))]) (rm9 l Z a0 hw r2 (2 : Int32) gg n_8 2 h_9 rfl (by decide) (by have := q6.1; omega) i1 rfl (own_ok IV 1).1 (own_ok IV 1).2 A_9) e_9 pd_7 rfl rfl 0 (Nat.le_of_eq rfl) (by decide) (by decide) (by decide) (by decide) at_447 450 rfl ?_
  intro T X e_9
  refine o_ifN C X at_450 453 rfl ((if0 _ _).trans (feq (by decide : ¬ ((1 : Int32) = (0 : Int32)))).1) ?_
  refine o_aload C X at_453 455 rfl rfl rfl ?_
  refine o_iconst C X at_455 456 rfl (4 : Int32) (by decide) ?_
  refine o_callP C X hZ (by rw [hml]; rfl) (own := "com/example/scanloom/scanloom/lexer/BuilderAddPinLaw") (y := (⟨"com/example/scanloom/scanloom/lexer/BuilderAddPinLaw", "ok", "([II)Z"⟩ : MethodName)) (rf := 0) (rl := 0) hown (hw _ (List.mem_of_getElem? (i := 52) rfl)) (hw _ (List.mem_of_getElem? (i := 53) rfl)) (hw _ (List.mem_of_getElem? (i := 54) rfl)) (hw _ (List.mem_of_getElem? (i := 55) rfl)) (by decide) (asL := [(.ref r2), (.int (4 : Int32))]) (rm9 l Z a0 hw r2 (4 : Int32) gg n_8 4 h_9 rfl (by decide) (by have := q6.1; omega) i1 rfl (own_ok IV 2).1 (own_ok IV 2).2 A_9) e_9 pd_7 rfl rfl 0 (Nat.le_of_eq rfl) (by decide) (by decide) (by decide) (by decide) at_456 459 rfl ?_
  intro T X e_9
  refine o_ifN C X at_459 462 rfl ((if0 _ _).trans (feq (by decide : ¬ ((1 : Int32) = (0 : Int32)))).1) ?_
  refine o_aload C X at_462 464 rfl rfl rfl ?_
  refine o_bipush C X at_464 466 rfl (6 : Int32) (by decide) ?_
  refine o_callP C X hZ (by rw [hml]; rfl) (own := "com/example/scanloom/scanloom/lexer/BuilderAddPinLaw") (y := (⟨"com/example/scanloom/scanloom/lexer/BuilderAddPinLaw", "ok", "([II)Z"⟩ : MethodName)) (rf := 0) (rl := 0) hown (hw _ (List.mem_of_getElem? (i := 52) rfl)) (hw _ (List.mem_of_getElem? (i := 53) rfl)) (hw _ (List.mem_of_getElem? (i := 54) rfl)) (hw _ (List.mem_of_getElem? (i := 55) rfl)) (by decide) (asL := [(.ref r2), (.int (6 : Int32))]) (rm9 l Z a0 hw r2 (6 : Int32) gg n_8 6 h_9 rfl (by decide) (by have := q6.1; omega) i1 rfl (own_ok IV 3).1 (own_ok IV 3).2 A_9) e_9 pd_7 rfl rfl 0 (Nat.le_of_eq rfl) (by decide) (by decide) (by decide) (by decide) at_466 469 rfl ?_
  intro T X e_9
  refine o_ifN C X at_469 472 rfl ((if0 _ _).trans (feq (by decide : ¬ ((1 : Int32) = (0 : Int32)))).1) ?_
  refine o_aload C X at_472 474 rfl rfl rfl ?_
  refine o_bipush C X at_474 476 rfl (8 : Int32) (by decide) ?_
  refine o_callP C X hZ (by rw [hml]; rfl) (own := "com/example/scanloom/scanloom/lexer/BuilderAddPinLaw") (y := (⟨"com/example/scanloom/scanloom/lexer/BuilderAddPinLaw", "ok", "([II)Z"⟩ : MethodName)) (rf := 0) (rl := 0) hown (hw _ (List.mem_of_getElem? (i := 52) rfl)) (hw _ (List.mem_of_getElem? (i := 53) rfl)) (hw _ (List.mem_of_getElem? (i := 54) rfl)) (hw _ (List.mem_of_getElem? (i := 55) rfl)) (by decide) (asL := [(.ref r2), (.int (8 : Int32))]) (rm9 l Z a0 hw r2 (8 : Int32) gg n_8 8 h_9 rfl (by decide) (by have := q6.1; omega) i1 rfl (own_ok IV 4).1 (own_ok IV 4).2 A_9) e_9 pd_7 rfl rfl 0 (Nat.le_of_eq rfl) (by decide) (by decide) (by decide) (by decide) at_476 479 rfl ?_
  intro T X e_9
  refine o_ifN C X at_479 482 rfl ((if0 _ _).trans (feq (by decide : ¬ ((1 : Int32) = (0 : Int32)))).1) ?_
  refine o_aload C X at_482 484 rfl rfl rfl ?_
  refine o_bipush C X at_484 486 rfl (10 : Int32) (by decide) ?_
  refine o_callP C X hZ (by rw [hml]; rfl) (own := "com/example/scanloom/scanloom/lexer/BuilderAddPinLaw") (y := (⟨"com/example/scanloom/scanloom/lexer/BuilderAddPinLaw", "ok", "([II)Z"⟩ : MethodName)) (rf := 0) (rl := 0) hown (hw _ (List.mem_of_getElem? (i := 52) rfl)) (hw _ (List.mem_of_getElem? (i := 53) rfl)) (hw _ (List.mem_of_getElem? (i := 54) rfl)) (hw _ (List.mem_of_getElem? (i := 55) rfl)) (by decide) (asL := [(.ref r2), (.int (10 : Int32))]) (rm9 l Z a0 hw r2 (10 : Int32) gg n_8 10 h_9 rfl (by decide) (by have := q6.1; omega) i1 rfl (own_ok IV 5).1 (own_ok IV 5).2 A_9) e_9 pd_7 rfl rfl 0 (Nat.le_of_eq rfl) (by decide) (by decide) (by decide) (by decide) at_486 489 rfl ?_
  intro T X e_9
  refine o_ifN C X at_489 492 rfl ((if0 _ _).trans (feq (by decide : ¬ ((1 : Int32) = (0 : Int32)))).1) ?_
  refine o_iconst C X at_492 493 rfl (1 : Int32) (by decide) ?_
  refine o_goto C X at_493 497 (by decide) (by decide) ?_
  refine o_istore C X at_497 499 rfl #[.val (.int x0), .val (.int x1), .val (.int x2), .val (.int x3), .val (.int f1), .val (.int l1), .val (.int g2), .val (.int f2), .val (.int l2), .val (.int g3), .val (.int f3), .val (.int l3), .val (.int g4), .val (.int f4), .val (.int l4), .val (.int g5), .val (.int f5), .val (.int l5), .val (.int g6), .val (.int f6), .val (.int l6), .val (.int pp), .val (.ref a), .val (.int ((((((1 : Int32) &&& (1 : Int32)) &&& (1 : Int32)) &&& (1 : Int32)) &&& (1 : Int32)) &&& (1 : Int32))), .val (.ref s2), .val (.ref r2), .val (.int (((((if g2 = (0 : Int32) then (1 : Int32) else (0 : Int32)) + (if g3 = (0 : Int32) then (1 : Int32) else (0 : Int32))) + (if g4 = (0 : Int32) then (1 : Int32) else (0 : Int32))) + (if g5 = (0 : Int32) then (1 : Int32) else (0 : Int32))) + (if g6 = (0 : Int32) then (1 : Int32) else (0 : Int32)))), .val (.int (1 : Int32)), .val (.int (1 : Int32)), .unset] rfl ?_
  refine o_iload C X at_499 501 rfl rfl ?_
  refine o_iload C X at_501 503 rfl rfl ?_
  refine o_iload C X at_503 505 rfl rfl ?_
  obtain ⟨M0, hM0⟩ : ∃ M0, n_8 = 2 * M0 := ⟨n_8 / 2, by omega⟩
  have IV' := IV
  have A9 := A_9
  rw [hM0] at IV' A9
  refine o_callP C X hZ (by rw [hml]; rfl) (own := "com/example/scanloom/scanloom/lexer/BuilderAddPinLaw") (y := (⟨"com/example/scanloom/scanloom/lexer/BuilderAddPinLaw", "in", "(III)Z"⟩ : MethodName)) (rf := 0) (rl := 0) hown (hw _ (List.mem_of_getElem? (i := 56) rfl)) (hw _ (List.mem_of_getElem? (i := 57) rfl)) (hw _ (List.mem_of_getElem? (i := 54) rfl)) (hw _ (List.mem_of_getElem? (i := 58) rfl)) (by decide) (asL := [(.int pp), (.int f1), (.int l1)]) (rm10 l Z a0 hw pp f1 l1 h_9) e_9 pd_8 rfl rfl 0 (Nat.le_of_eq rfl) (by decide) (by decide) (by decide) (by decide) at_505 508 rfl ?_
  intro T X e_9
  by_cases v1 : (FI pp f1 l1) = (0 : Int32)
  rotate_left
  · skip
    refine o_ifY C X at_508 571 (by decide) (by decide) ((if0 _ _).trans (feq v1).2) ?_
    refine o_iconst C X at_571 572 rfl (1 : Int32) (by decide) ?_
    refine o_goto C X at_572 576 (by decide) (by decide) ?_
    refine o_istore C X at_576 578 rfl #[.val (.int x0), .val (.int x1), .val (.int x2), .val (.int x3), .val (.int f1), .val (.int l1), .val (.int g2), .val (.int f2), .val (.int l2), .val (.int g3), .val (.int f3), .val (.int l3), .val (.int g4), .val (.int f4), .val (.int l4), .val (.int g5), .val (.int f5), .val (.int l5), .val (.int g6), .val (.int f6), .val (.int l6), .val (.int pp), .val (.ref a), .val (.int ((((((1 : Int32) &&& (1 : Int32)) &&& (1 : Int32)) &&& (1 : Int32)) &&& (1 : Int32)) &&& (1 : Int32))), .val (.ref s2), .val (.ref r2), .val (.int (((((if g2 = (0 : Int32) then (1 : Int32) else (0 : Int32)) + (if g3 = (0 : Int32) then (1 : Int32) else (0 : Int32))) + (if g4 = (0 : Int32) then (1 : Int32) else (0 : Int32))) + (if g5 = (0 : Int32) then (1 : Int32) else (0 : Int32))) + (if g6 = (0 : Int32) then (1 : Int32) else (0 : Int32)))), .val (.int (1 : Int32)), .val (.int (1 : Int32)), .val (.int (1 : Int32))] rfl ?_
    refine o_iload C X at_578 580 rfl rfl ?_
    refine o_ifN C X at_580 583 rfl ((if0 _ _).trans (feq (by decide : ¬ (((((((1 : Int32) &&& (1 : Int32)) &&& (1 : Int32)) &&& (1 : Int32)) &&& (1 : Int32)) &&& (1 : Int32)) = (0 : Int32)))).1) ?_
    refine o_iload C X at_583 585 rfl rfl ?_
    refine o_ifN C X at_585 588 rfl ((if0 _ _).trans (feq (by decide : ¬ ((1 : Int32) = (0 : Int32)))).1) ?_
    refine o_iload C X at_588 590 rfl rfl ?_
    refine o_ifN C X at_590 593 rfl ((if0 _ _).trans (feq (by decide : ¬ ((1 : Int32) = (0 : Int32)))).1) ?_
    refine o_aload C X at_593 595 rfl rfl rfl ?_
    refine o_iload C X at_595 597 rfl rfl ?_
    refine o_callV C X hZ (by rw [hml]; rfl) (own := "com/example/scanloom/scanloom/lexer/BuilderAddPinLaw") (y := (⟨"com/example/scanloom/scanloom/lexer/CodePointSet", "contains", "(I)Z"⟩ : MethodName)) hown (hw _ (List.mem_of_getElem? (i := 59) rfl)) (hw _ (List.mem_of_getElem? (i := 60) rfl)) (hw _ (List.mem_of_getElem? (i := 62) rfl)) (hw _ (List.mem_of_getElem? (i := 61) rfl)) (hw _ (List.mem_of_getElem? (i := 28) rfl)) (hw _ (List.mem_of_getElem? (i := 63) rfl)) (by decide) (asL := [(.int pp)]) (a := s2) (rm11 l Z a0 hw s2 r2 pp gg M0 h_9 (by have := q6.1; omega) (fun i j h1 h2 => by rw [Int32.lt_iff_toInt_lt]; have := IV'.sort i j h1 h2; omega) P_9 A9) e_9 P_9.1 pd_9 rfl rfl 0 (Nat.le_of_eq rfl) (by decide) (by decide) (by decide) (by decide) at_597 600 rfl ?_
    rintro T h_10 _ L_10 X e_10 ⟨t_10, ht_10, rfl, rfl, hh_10, p_10, q_10⟩
    have N0 : Fr n0 _ := Fr.app N0 (Fr.nil n0)
    refine o_iload C X at_600 602 rfl rfl ?_
    have cc := own_ct IV' ht_10 p_10 q_10
    refine o_icmpN C X at_602 605 rfl (teq (cc.mpr (Or.inl (Or.inl (Or.inl (Or.inl (Or.inl ((own_fi _ _ _).mp v1)))))) : (CT gg pp t_10) = (1 : Int32))).2 ?_
    refine o_iconst C X at_605 606 rfl (1 : Int32) (by decide) ?_
    refine o_goto C X at_606 610 (by decide) (by decide) ?_
    exact o_retN C X hret (by simp) hlk at_610 ⟨congrArg some (congrArg _ (rfl)), N0⟩ (by decide) (by decide)
  refine o_ifN C X at_508 511 rfl ((if0 _ _).trans (teq v1).2) ?_
  refine o_iload C X at_511 513 rfl rfl ?_
  refine o_iload C X at_513 515 rfl rfl ?_
  refine o_iload C X at_515 517 rfl rfl ?_
  refine o_callP C X hZ (by rw [hml]; rfl) (own := "com/example/scanloom/scanloom/lexer/BuilderAddPinLaw") (y := (⟨"com/example/scanloom/scanloom/lexer/BuilderAddPinLaw", "in", "(III)Z"⟩ : MethodName)) (rf := 0) (rl := 0) hown (hw _ (List.mem_of_getElem? (i := 56) rfl)) (hw _ (List.mem_of_getElem? (i := 57) rfl)) (hw _ (List.mem_of_getElem? (i := 54) rfl)) (hw _ (List.mem_of_getElem? (i := 58) rfl)) (by decide) (asL := [(.int pp), (.int f2), (.int l2)]) (rm10 l Z a0 hw pp f2 l2 h_9) e_9 pd_8 rfl rfl 0 (Nat.le_of_eq rfl) (by decide) (by decide) (by decide) (by decide) at_517 520 rfl ?_
  intro T X e_9
  by_cases v2 : (FI pp f2 l2) = (0 : Int32)
  rotate_left
  · skip
    refine o_ifY C X at_520 571 (by decide) (by decide) ((if0 _ _).trans (feq v2).2) ?_
    refine o_iconst C X at_571 572 rfl (1 : Int32) (by decide) ?_
    refine o_goto C X at_572 576 (by decide) (by decide) ?_
    refine o_istore C X at_576 578 rfl #[.val (.int x0), .val (.int x1), .val (.int x2), .val (.int x3), .val (.int f1), .val (.int l1), .val (.int g2), .val (.int f2), .val (.int l2), .val (.int g3), .val (.int f3), .val (.int l3), .val (.int g4), .val (.int f4), .val (.int l4), .val (.int g5), .val (.int f5), .val (.int l5), .val (.int g6), .val (.int f6), .val (.int l6), .val (.int pp), .val (.ref a), .val (.int ((((((1 : Int32) &&& (1 : Int32)) &&& (1 : Int32)) &&& (1 : Int32)) &&& (1 : Int32)) &&& (1 : Int32))), .val (.ref s2), .val (.ref r2), .val (.int (((((if g2 = (0 : Int32) then (1 : Int32) else (0 : Int32)) + (if g3 = (0 : Int32) then (1 : Int32) else (0 : Int32))) + (if g4 = (0 : Int32) then (1 : Int32) else (0 : Int32))) + (if g5 = (0 : Int32) then (1 : Int32) else (0 : Int32))) + (if g6 = (0 : Int32) then (1 : Int32) else (0 : Int32)))), .val (.int (1 : Int32)), .val (.int (1 : Int32)), .val (.int (1 : Int32))] rfl ?_
    refine o_iload C X at_578 580 rfl rfl ?_
    refine o_ifN C X at_580 583 rfl ((if0 _ _).trans (feq (by decide : ¬ (((((((1 : Int32) &&& (1 : Int32)) &&& (1 : Int32)) &&& (1 : Int32)) &&& (1 : Int32)) &&& (1 : Int32)) = (0 : Int32)))).1) ?_
    refine o_iload C X at_583 585 rfl rfl ?_
    refine o_ifN C X at_585 588 rfl ((if0 _ _).trans (feq (by decide : ¬ ((1 : Int32) = (0 : Int32)))).1) ?_
    refine o_iload C X at_588 590 rfl rfl ?_
    refine o_ifN C X at_590 593 rfl ((if0 _ _).trans (feq (by decide : ¬ ((1 : Int32) = (0 : Int32)))).1) ?_
    refine o_aload C X at_593 595 rfl rfl rfl ?_
    refine o_iload C X at_595 597 rfl rfl ?_
    refine o_callV C X hZ (by rw [hml]; rfl) (own := "com/example/scanloom/scanloom/lexer/BuilderAddPinLaw") (y := (⟨"com/example/scanloom/scanloom/lexer/CodePointSet", "contains", "(I)Z"⟩ : MethodName)) hown (hw _ (List.mem_of_getElem? (i := 59) rfl)) (hw _ (List.mem_of_getElem? (i := 60) rfl)) (hw _ (List.mem_of_getElem? (i := 62) rfl)) (hw _ (List.mem_of_getElem? (i := 61) rfl)) (hw _ (List.mem_of_getElem? (i := 28) rfl)) (hw _ (List.mem_of_getElem? (i := 63) rfl)) (by decide) (asL := [(.int pp)]) (a := s2) (rm11 l Z a0 hw s2 r2 pp gg M0 h_9 (by have := q6.1; omega) (fun i j h1 h2 => by rw [Int32.lt_iff_toInt_lt]; have := IV'.sort i j h1 h2; omega) P_9 A9) e_9 P_9.1 pd_9 rfl rfl 0 (Nat.le_of_eq rfl) (by decide) (by decide) (by decide) (by decide) at_597 600 rfl ?_
    rintro T h_10 _ L_10 X e_10 ⟨t_10, ht_10, rfl, rfl, hh_10, p_10, q_10⟩
    have N0 : Fr n0 _ := Fr.app N0 (Fr.nil n0)
    refine o_iload C X at_600 602 rfl rfl ?_
    have cc := own_ct IV' ht_10 p_10 q_10
    refine o_icmpN C X at_602 605 rfl (teq (cc.mpr (Or.inl (Or.inl (Or.inl (Or.inl (Or.inr ((own_fi _ _ _).mp v2)))))) : (CT gg pp t_10) = (1 : Int32))).2 ?_
    refine o_iconst C X at_605 606 rfl (1 : Int32) (by decide) ?_
    refine o_goto C X at_606 610 (by decide) (by decide) ?_
    exact o_retN C X hret (by simp) hlk at_610 ⟨congrArg some (congrArg _ (rfl)), N0⟩ (by decide) (by decide)
  refine o_ifN C X at_520 523 rfl ((if0 _ _).trans (teq v2).2) ?_
  refine o_iload C X at_523 525 rfl rfl ?_
  refine o_iload C X at_525 527 rfl rfl ?_
  refine o_iload C X at_527 529 rfl rfl ?_
  refine o_callP C X hZ (by rw [hml]; rfl) (own := "com/example/scanloom/scanloom/lexer/BuilderAddPinLaw") (y := (⟨"com/example/scanloom/scanloom/lexer/BuilderAddPinLaw", "in", "(III)Z"⟩ : MethodName)) (rf := 0) (rl := 0) hown (hw _ (List.mem_of_getElem? (i := 56) rfl)) (hw _ (List.mem_of_getElem? (i := 57) rfl)) (hw _ (List.mem_of_getElem? (i := 54) rfl)) (hw _ (List.mem_of_getElem? (i := 58) rfl)) (by decide) (asL := [(.int pp), (.int f3), (.int l3)]) (rm10 l Z a0 hw pp f3 l3 h_9) e_9 pd_8 rfl rfl 0 (Nat.le_of_eq rfl) (by decide) (by decide) (by decide) (by decide) at_529 532 rfl ?_
  intro T X e_9
  by_cases v3 : (FI pp f3 l3) = (0 : Int32)
  rotate_left
  · skip
    refine o_ifY C X at_532 571 (by decide) (by decide) ((if0 _ _).trans (feq v3).2) ?_
    refine o_iconst C X at_571 572 rfl (1 : Int32) (by decide) ?_
    refine o_goto C X at_572 576 (by decide) (by decide) ?_
    refine o_istore C X at_576 578 rfl #[.val (.int x0), .val (.int x1), .val (.int x2), .val (.int x3), .val (.int f1), .val (.int l1), .val (.int g2), .val (.int f2), .val (.int l2), .val (.int g3), .val (.int f3), .val (.int l3), .val (.int g4), .val (.int f4), .val (.int l4), .val (.int g5), .val (.int f5), .val (.int l5), .val (.int g6), .val (.int f6), .val (.int l6), .val (.int pp), .val (.ref a), .val (.int ((((((1 : Int32) &&& (1 : Int32)) &&& (1 : Int32)) &&& (1 : Int32)) &&& (1 : Int32)) &&& (1 : Int32))), .val (.ref s2), .val (.ref r2), .val (.int (((((if g2 = (0 : Int32) then (1 : Int32) else (0 : Int32)) + (if g3 = (0 : Int32) then (1 : Int32) else (0 : Int32))) + (if g4 = (0 : Int32) then (1 : Int32) else (0 : Int32))) + (if g5 = (0 : Int32) then (1 : Int32) else (0 : Int32))) + (if g6 = (0 : Int32) then (1 : Int32) else (0 : Int32)))), .val (.int (1 : Int32)), .val (.int (1 : Int32)), .val (.int (1 : Int32))] rfl ?_
    refine o_iload C X at_578 580 rfl rfl ?_
    refine o_ifN C X at_580 583 rfl ((if0 _ _).trans (feq (by decide : ¬ (((((((1 : Int32) &&& (1 : Int32)) &&& (1 : Int32)) &&& (1 : Int32)) &&& (1 : Int32)) &&& (1 : Int32)) = (0 : Int32)))).1) ?_
    refine o_iload C X at_583 585 rfl rfl ?_
    refine o_ifN C X at_585 588 rfl ((if0 _ _).trans (feq (by decide : ¬ ((1 : Int32) = (0 : Int32)))).1) ?_
    refine o_iload C X at_588 590 rfl rfl ?_
    refine o_ifN C X at_590 593 rfl ((if0 _ _).trans (feq (by decide : ¬ ((1 : Int32) = (0 : Int32)))).1) ?_
    refine o_aload C X at_593 595 rfl rfl rfl ?_
    refine o_iload C X at_595 597 rfl rfl ?_
    refine o_callV C X hZ (by rw [hml]; rfl) (own := "com/example/scanloom/scanloom/lexer/BuilderAddPinLaw") (y := (⟨"com/example/scanloom/scanloom/lexer/CodePointSet", "contains", "(I)Z"⟩ : MethodName)) hown (hw _ (List.mem_of_getElem? (i := 59) rfl)) (hw _ (List.mem_of_getElem? (i := 60) rfl)) (hw _ (List.mem_of_getElem? (i := 62) rfl)) (hw _ (List.mem_of_getElem? (i := 61) rfl)) (hw _ (List.mem_of_getElem? (i := 28) rfl)) (hw _ (List.mem_of_getElem? (i := 63) rfl)) (by decide) (asL := [(.int pp)]) (a := s2) (rm11 l Z a0 hw s2 r2 pp gg M0 h_9 (by have := q6.1; omega) (fun i j h1 h2 => by rw [Int32.lt_iff_toInt_lt]; have := IV'.sort i j h1 h2; omega) P_9 A9) e_9 P_9.1 pd_9 rfl rfl 0 (Nat.le_of_eq rfl) (by decide) (by decide) (by decide) (by decide) at_597 600 rfl ?_
    rintro T h_10 _ L_10 X e_10 ⟨t_10, ht_10, rfl, rfl, hh_10, p_10, q_10⟩
    have N0 : Fr n0 _ := Fr.app N0 (Fr.nil n0)
    refine o_iload C X at_600 602 rfl rfl ?_
    have cc := own_ct IV' ht_10 p_10 q_10
    refine o_icmpN C X at_602 605 rfl (teq (cc.mpr (Or.inl (Or.inl (Or.inl (Or.inr ((own_fi _ _ _).mp v3))))) : (CT gg pp t_10) = (1 : Int32))).2 ?_
    refine o_iconst C X at_605 606 rfl (1 : Int32) (by decide) ?_
    refine o_goto C X at_606 610 (by decide) (by decide) ?_
    exact o_retN C X hret (by simp) hlk at_610 ⟨congrArg some (congrArg _ (rfl)), N0⟩ (by decide) (by decide)
  refine o_ifN C X at_532 535 rfl ((if0 _ _).trans (teq v3).2) ?_
  refine o_iload C X at_535 537 rfl rfl ?_
  refine o_iload C X at_537 539 rfl rfl ?_
  refine o_iload C X at_539 541 rfl rfl ?_
  refine o_callP C X hZ (by rw [hml]; rfl) (own := "com/example/scanloom/scanloom/lexer/BuilderAddPinLaw") (y := (⟨"com/example/scanloom/scanloom/lexer/BuilderAddPinLaw", "in", "(III)Z"⟩ : MethodName)) (rf := 0) (rl := 0) hown (hw _ (List.mem_of_getElem? (i := 56) rfl)) (hw _ (List.mem_of_getElem? (i := 57) rfl)) (hw _ (List.mem_of_getElem? (i := 54) rfl)) (hw _ (List.mem_of_getElem? (i := 58) rfl)) (by decide) (asL := [(.int pp), (.int f4), (.int l4)]) (rm10 l Z a0 hw pp f4 l4 h_9) e_9 pd_8 rfl rfl 0 (Nat.le_of_eq rfl) (by decide) (by decide) (by decide) (by decide) at_541 544 rfl ?_
  intro T X e_9
  by_cases v4 : (FI pp f4 l4) = (0 : Int32)
  rotate_left
  · skip
    refine o_ifY C X at_544 571 (by decide) (by decide) ((if0 _ _).trans (feq v4).2) ?_
    refine o_iconst C X at_571 572 rfl (1 : Int32) (by decide) ?_
    refine o_goto C X at_572 576 (by decide) (by decide) ?_
    refine o_istore C X at_576 578 rfl #[.val (.int x0), .val (.int x1), .val (.int x2), .val (.int x3), .val (.int f1), .val (.int l1), .val (.int g2), .val (.int f2), .val (.int l2), .val (.int g3), .val (.int f3), .val (.int l3), .val (.int g4), .val (.int f4), .val (.int l4), .val (.int g5), .val (.int f5), .val (.int l5), .val (.int g6), .val (.int f6), .val (.int l6), .val (.int pp), .val (.ref a), .val (.int ((((((1 : Int32) &&& (1 : Int32)) &&& (1 : Int32)) &&& (1 : Int32)) &&& (1 : Int32)) &&& (1 : Int32))), .val (.ref s2), .val (.ref r2), .val (.int (((((if g2 = (0 : Int32) then (1 : Int32) else (0 : Int32)) + (if g3 = (0 : Int32) then (1 : Int32) else (0 : Int32))) + (if g4 = (0 : Int32) then (1 : Int32) else (0 : Int32))) + (if g5 = (0 : Int32) then (1 : Int32) else (0 : Int32))) + (if g6 = (0 : Int32) then (1 : Int32) else (0 : Int32)))), .val (.int (1 : Int32)), .val (.int (1 : Int32)), .val (.int (1 : Int32))] rfl ?_
    refine o_iload C X at_578 580 rfl rfl ?_
    refine o_ifN C X at_580 583 rfl ((if0 _ _).trans (feq (by decide : ¬ (((((((1 : Int32) &&& (1 : Int32)) &&& (1 : Int32)) &&& (1 : Int32)) &&& (1 : Int32)) &&& (1 : Int32)) = (0 : Int32)))).1) ?_
    refine o_iload C X at_583 585 rfl rfl ?_
    refine o_ifN C X at_585 588 rfl ((if0 _ _).trans (feq (by decide : ¬ ((1 : Int32) = (0 : Int32)))).1) ?_
    refine o_iload C X at_588 590 rfl rfl ?_
    refine o_ifN C X at_590 593 rfl ((if0 _ _).trans (feq (by decide : ¬ ((1 : Int32) = (0 : Int32)))).1) ?_
    refine o_aload C X at_593 595 rfl rfl rfl ?_
    refine o_iload C X at_595 597 rfl rfl ?_
    refine o_callV C X hZ (by rw [hml]; rfl) (own := "com/example/scanloom/scanloom/lexer/BuilderAddPinLaw") (y := (⟨"com/example/scanloom/scanloom/lexer/CodePointSet", "contains", "(I)Z"⟩ : MethodName)) hown (hw _ (List.mem_of_getElem? (i := 59) rfl)) (hw _ (List.mem_of_getElem? (i := 60) rfl)) (hw _ (List.mem_of_getElem? (i := 62) rfl)) (hw _ (List.mem_of_getElem? (i := 61) rfl)) (hw _ (List.mem_of_getElem? (i := 28) rfl)) (hw _ (List.mem_of_getElem? (i := 63) rfl)) (by decide) (asL := [(.int pp)]) (a := s2) (rm11 l Z a0 hw s2 r2 pp gg M0 h_9 (by have := q6.1; omega) (fun i j h1 h2 => by rw [Int32.lt_iff_toInt_lt]; have := IV'.sort i j h1 h2; omega) P_9 A9) e_9 P_9.1 pd_9 rfl rfl 0 (Nat.le_of_eq rfl) (by decide) (by decide) (by decide) (by decide) at_597 600 rfl ?_
    rintro T h_10 _ L_10 X e_10 ⟨t_10, ht_10, rfl, rfl, hh_10, p_10, q_10⟩
    have N0 : Fr n0 _ := Fr.app N0 (Fr.nil n0)
    refine o_iload C X at_600 602 rfl rfl ?_
    have cc := own_ct IV' ht_10 p_10 q_10
    refine o_icmpN C X at_602 605 rfl (teq (cc.mpr (Or.inl (Or.inl (Or.inr ((own_fi _ _ _).mp v4)))) : (CT gg pp t_10) = (1 : Int32))).2 ?_
    refine o_iconst C X at_605 606 rfl (1 : Int32) (by decide) ?_
    refine o_goto C X at_606 610 (by decide) (by decide) ?_
    exact o_retN C X hret (by simp) hlk at_610 ⟨congrArg some (congrArg _ (rfl)), N0⟩ (by decide) (by decide)
  refine o_ifN C X at_544 547 rfl ((if0 _ _).trans (teq v4).2) ?_
  refine o_iload C X at_547 549 rfl rfl ?_
  refine o_iload C X at_549 551 rfl rfl ?_
  refine o_iload C X at_551 553 rfl rfl ?_
  refine o_callP C X hZ (by rw [hml]; rfl) (own := "com/example/scanloom/scanloom/lexer/BuilderAddPinLaw") (y := (⟨"com/example/scanloom/scanloom/lexer/BuilderAddPinLaw", "in", "(III)Z"⟩ : MethodName)) (rf := 0) (rl := 0) hown (hw _ (List.mem_of_getElem? (i := 56) rfl)) (hw _ (List.mem_of_getElem? (i := 57) rfl)) (hw _ (List.mem_of_getElem? (i := 54) rfl)) (hw _ (List.mem_of_getElem? (i := 58) rfl)) (by decide) (asL := [(.int pp), (.int f5), (.int l5)]) (rm10 l Z a0 hw pp f5 l5 h_9) e_9 pd_8 rfl rfl 0 (Nat.le_of_eq rfl) (by decide) (by decide) (by decide) (by decide) at_553 556 rfl ?_
  intro T X e_9
  by_cases v5 : (FI pp f5 l5) = (0 : Int32)
  rotate_left
  · skip
    refine o_ifY C X at_556 571 (by decide) (by decide) ((if0 _ _).trans (feq v5).2) ?_
    refine o_iconst C X at_571 572 rfl (1 : Int32) (by decide) ?_
    refine o_goto C X at_572 576 (by decide) (by decide) ?_
    refine o_istore C X at_576 578 rfl #[.val (.int x0), .val (.int x1), .val (.int x2), .val (.int x3), .val (.int f1), .val (.int l1), .val (.int g2), .val (.int f2), .val (.int l2), .val (.int g3), .val (.int f3), .val (.int l3), .val (.int g4), .val (.int f4), .val (.int l4), .val (.int g5), .val (.int f5), .val (.int l5), .val (.int g6), .val (.int f6), .val (.int l6), .val (.int pp), .val (.ref a), .val (.int ((((((1 : Int32) &&& (1 : Int32)) &&& (1 : Int32)) &&& (1 : Int32)) &&& (1 : Int32)) &&& (1 : Int32))), .val (.ref s2), .val (.ref r2), .val (.int (((((if g2 = (0 : Int32) then (1 : Int32) else (0 : Int32)) + (if g3 = (0 : Int32) then (1 : Int32) else (0 : Int32))) + (if g4 = (0 : Int32) then (1 : Int32) else (0 : Int32))) + (if g5 = (0 : Int32) then (1 : Int32) else (0 : Int32))) + (if g6 = (0 : Int32) then (1 : Int32) else (0 : Int32)))), .val (.int (1 : Int32)), .val (.int (1 : Int32)), .val (.int (1 : Int32))] rfl ?_
    refine o_iload C X at_578 580 rfl rfl ?_
    refine o_ifN C X at_580 583 rfl ((if0 _ _).trans (feq (by decide : ¬ (((((((1 : Int32) &&& (1 : Int32)) &&& (1 : Int32)) &&& (1 : Int32)) &&& (1 : Int32)) &&& (1 : Int32)) = (0 : Int32)))).1) ?_
    refine o_iload C X at_583 585 rfl rfl ?_
    refine o_ifN C X at_585 588 rfl ((if0 _ _).trans (feq (by decide : ¬ ((1 : Int32) = (0 : Int32)))).1) ?_
    refine o_iload C X at_588 590 rfl rfl ?_
    refine o_ifN C X at_590 593 rfl ((if0 _ _).trans (feq (by decide : ¬ ((1 : Int32) = (0 : Int32)))).1) ?_
    refine o_aload C X at_593 595 rfl rfl rfl ?_
    refine o_iload C X at_595 597 rfl rfl ?_
    refine o_callV C X hZ (by rw [hml]; rfl) (own := "com/example/scanloom/scanloom/lexer/BuilderAddPinLaw") (y := (⟨"com/example/scanloom/scanloom/lexer/CodePointSet", "contains", "(I)Z"⟩ : MethodName)) hown (hw _ (List.mem_of_getElem? (i := 59) rfl)) (hw _ (List.mem_of_getElem? (i := 60) rfl)) (hw _ (List.mem_of_getElem? (i := 62) rfl)) (hw _ (List.mem_of_getElem? (i := 61) rfl)) (hw _ (List.mem_of_getElem? (i := 28) rfl)) (hw _ (List.mem_of_getElem? (i := 63) rfl)) (by decide) (asL := [(.int pp)]) (a := s2) (rm11 l Z a0 hw s2 r2 pp gg M0 h_9 (by have := q6.1; omega) (fun i j h1 h2 => by rw [Int32.lt_iff_toInt_lt]; have := IV'.sort i j h1 h2; omega) P_9 A9) e_9 P_9.1 pd_9 rfl rfl 0 (Nat.le_of_eq rfl) (by decide) (by decide) (by decide) (by decide) at_597 600 rfl ?_
    rintro T h_10 _ L_10 X e_10 ⟨t_10, ht_10, rfl, rfl, hh_10, p_10, q_10⟩
    have N0 : Fr n0 _ := Fr.app N0 (Fr.nil n0)
    refine o_iload C X at_600 602 rfl rfl ?_
    have cc := own_ct IV' ht_10 p_10 q_10
    refine o_icmpN C X at_602 605 rfl (teq (cc.mpr (Or.inl (Or.inr ((own_fi _ _ _).mp v5))) : (CT gg pp t_10) = (1 : Int32))).2 ?_
    refine o_iconst C X at_605 606 rfl (1 : Int32) (by decide) ?_
    refine o_goto C X at_606 610 (by decide) (by decide) ?_
    exact o_retN C X hret (by simp) hlk at_610 ⟨congrArg some (congrArg _ (rfl)), N0⟩ (by decide) (by decide)
  refine o_ifN C X at_556 559 rfl ((if0 _ _).trans (teq v5).2) ?_
  refine o_iload C X at_559 561 rfl rfl ?_
  refine o_iload C X at_561 563 rfl rfl ?_
  refine o_iload C X at_563 565 rfl rfl ?_
  refine o_callP C X hZ (by rw [hml]; rfl) (own := "com/example/scanloom/scanloom/lexer/BuilderAddPinLaw") (y := (⟨"com/example/scanloom/scanloom/lexer/BuilderAddPinLaw", "in", "(III)Z"⟩ : MethodName)) (rf := 0) (rl := 0) hown (hw _ (List.mem_of_getElem? (i := 56) rfl)) (hw _ (List.mem_of_getElem? (i := 57) rfl)) (hw _ (List.mem_of_getElem? (i := 54) rfl)) (hw _ (List.mem_of_getElem? (i := 58) rfl)) (by decide) (asL := [(.int pp), (.int f6), (.int l6)]) (rm10 l Z a0 hw pp f6 l6 h_9) e_9 pd_8 rfl rfl 0 (Nat.le_of_eq rfl) (by decide) (by decide) (by decide) (by decide) at_565 568 rfl ?_
  intro T X e_9
  by_cases v6 : (FI pp f6 l6) = (0 : Int32)
  rotate_left
  · skip
    refine o_ifN C X at_568 571 rfl ((if0 _ _).trans (feq v6).1) ?_
    refine o_iconst C X at_571 572 rfl (1 : Int32) (by decide) ?_
    refine o_goto C X at_572 576 (by decide) (by decide) ?_
    refine o_istore C X at_576 578 rfl #[.val (.int x0), .val (.int x1), .val (.int x2), .val (.int x3), .val (.int f1), .val (.int l1), .val (.int g2), .val (.int f2), .val (.int l2), .val (.int g3), .val (.int f3), .val (.int l3), .val (.int g4), .val (.int f4), .val (.int l4), .val (.int g5), .val (.int f5), .val (.int l5), .val (.int g6), .val (.int f6), .val (.int l6), .val (.int pp), .val (.ref a), .val (.int ((((((1 : Int32) &&& (1 : Int32)) &&& (1 : Int32)) &&& (1 : Int32)) &&& (1 : Int32)) &&& (1 : Int32))), .val (.ref s2), .val (.ref r2), .val (.int (((((if g2 = (0 : Int32) then (1 : Int32) else (0 : Int32)) + (if g3 = (0 : Int32) then (1 : Int32) else (0 : Int32))) + (if g4 = (0 : Int32) then (1 : Int32) else (0 : Int32))) + (if g5 = (0 : Int32) then (1 : Int32) else (0 : Int32))) + (if g6 = (0 : Int32) then (1 : Int32) else (0 : Int32)))), .val (.int (1 : Int32)), .val (.int (1 : Int32)), .val (.int (1 : Int32))] rfl ?_
    refine o_iload C X at_578 580 rfl rfl ?_
    refine o_ifN C X at_580 583 rfl ((if0 _ _).trans (feq (by decide : ¬ (((((((1 : Int32) &&& (1 : Int32)) &&& (1 : Int32)) &&& (1 : Int32)) &&& (1 : Int32)) &&& (1 : Int32)) = (0 : Int32)))).1) ?_
    refine o_iload C X at_583 585 rfl rfl ?_
    refine o_ifN C X at_585 588 rfl ((if0 _ _).trans (feq (by decide : ¬ ((1 : Int32) = (0 : Int32)))).1) ?_
    refine o_iload C X at_588 590 rfl rfl ?_
    refine o_ifN C X at_590 593 rfl ((if0 _ _).trans (feq (by decide : ¬ ((1 : Int32) = (0 : Int32)))).1) ?_
    refine o_aload C X at_593 595 rfl rfl rfl ?_
    refine o_iload C X at_595 597 rfl rfl ?_
    refine o_callV C X hZ (by rw [hml]; rfl) (own := "com/example/scanloom/scanloom/lexer/BuilderAddPinLaw") (y := (⟨"com/example/scanloom/scanloom/lexer/CodePointSet", "contains", "(I)Z"⟩ : MethodName)) hown (hw _ (List.mem_of_getElem? (i := 59) rfl)) (hw _ (List.mem_of_getElem? (i := 60) rfl)) (hw _ (List.mem_of_getElem? (i := 62) rfl)) (hw _ (List.mem_of_getElem? (i := 61) rfl)) (hw _ (List.mem_of_getElem? (i := 28) rfl)) (hw _ (List.mem_of_getElem? (i := 63) rfl)) (by decide) (asL := [(.int pp)]) (a := s2) (rm11 l Z a0 hw s2 r2 pp gg M0 h_9 (by have := q6.1; omega) (fun i j h1 h2 => by rw [Int32.lt_iff_toInt_lt]; have := IV'.sort i j h1 h2; omega) P_9 A9) e_9 P_9.1 pd_9 rfl rfl 0 (Nat.le_of_eq rfl) (by decide) (by decide) (by decide) (by decide) at_597 600 rfl ?_
    rintro T h_10 _ L_10 X e_10 ⟨t_10, ht_10, rfl, rfl, hh_10, p_10, q_10⟩
    have N0 : Fr n0 _ := Fr.app N0 (Fr.nil n0)
    refine o_iload C X at_600 602 rfl rfl ?_
    have cc := own_ct IV' ht_10 p_10 q_10
    refine o_icmpN C X at_602 605 rfl (teq (cc.mpr (Or.inr ((own_fi _ _ _).mp v6)) : (CT gg pp t_10) = (1 : Int32))).2 ?_
    refine o_iconst C X at_605 606 rfl (1 : Int32) (by decide) ?_
    refine o_goto C X at_606 610 (by decide) (by decide) ?_
    exact o_retN C X hret (by simp) hlk at_610 ⟨congrArg some (congrArg _ (rfl)), N0⟩ (by decide) (by decide)
  refine o_ifY C X at_568 575 (by decide) (by decide) ((if0 _ _).trans (teq v6).1) ?_
  refine o_iconst C X at_575 576 rfl (0 : Int32) (by decide) ?_
  refine o_istore C X at_576 578 rfl #[.val (.int x0), .val (.int x1), .val (.int x2), .val (.int x3), .val (.int f1), .val (.int l1), .val (.int g2), .val (.int f2), .val (.int l2), .val (.int g3), .val (.int f3), .val (.int l3), .val (.int g4), .val (.int f4), .val (.int l4), .val (.int g5), .val (.int f5), .val (.int l5), .val (.int g6), .val (.int f6), .val (.int l6), .val (.int pp), .val (.ref a), .val (.int ((((((1 : Int32) &&& (1 : Int32)) &&& (1 : Int32)) &&& (1 : Int32)) &&& (1 : Int32)) &&& (1 : Int32))), .val (.ref s2), .val (.ref r2), .val (.int (((((if g2 = (0 : Int32) then (1 : Int32) else (0 : Int32)) + (if g3 = (0 : Int32) then (1 : Int32) else (0 : Int32))) + (if g4 = (0 : Int32) then (1 : Int32) else (0 : Int32))) + (if g5 = (0 : Int32) then (1 : Int32) else (0 : Int32))) + (if g6 = (0 : Int32) then (1 : Int32) else (0 : Int32)))), .val (.int (1 : Int32)), .val (.int (1 : Int32)), .val (.int (0 : Int32))] rfl ?_
  refine o_iload C X at_578 580 rfl rfl ?_
  refine o_ifN C X at_580 583 rfl ((if0 _ _).trans (feq (by decide : ¬ (((((((1 : Int32) &&& (1 : Int32)) &&& (1 : Int32)) &&& (1 : Int32)) &&& (1 : Int32)) &&& (1 : Int32)) = (0 : Int32)))).1) ?_
  refine o_iload C X at_583 585 rfl rfl ?_
  refine o_ifN C X at_585 588 rfl ((if0 _ _).trans (feq (by decide : ¬ ((1 : Int32) = (0 : Int32)))).1) ?_
  refine o_iload C X at_588 590 rfl rfl ?_
  refine o_ifN C X at_590 593 rfl ((if0 _ _).trans (feq (by decide : ¬ ((1 : Int32) = (0 : Int32)))).1) ?_
  refine o_aload C X at_593 595 rfl rfl rfl ?_
  refine o_iload C X at_595 597 rfl rfl ?_
  refine o_callV C X hZ (by rw [hml]; rfl) (own := "com/example/scanloom/scanloom/lexer/BuilderAddPinLaw") (y := (⟨"com/example/scanloom/scanloom/lexer/CodePointSet", "contains", "(I)Z"⟩ : MethodName)) hown (hw _ (List.mem_of_getElem? (i := 59) rfl)) (hw _ (List.mem_of_getElem? (i := 60) rfl)) (hw _ (List.mem_of_getElem? (i := 62) rfl)) (hw _ (List.mem_of_getElem? (i := 61) rfl)) (hw _ (List.mem_of_getElem? (i := 28) rfl)) (hw _ (List.mem_of_getElem? (i := 63) rfl)) (by decide) (asL := [(.int pp)]) (a := s2) (rm11 l Z a0 hw s2 r2 pp gg M0 h_9 (by have := q6.1; omega) (fun i j h1 h2 => by rw [Int32.lt_iff_toInt_lt]; have := IV'.sort i j h1 h2; omega) P_9 A9) e_9 P_9.1 pd_9 rfl rfl 0 (Nat.le_of_eq rfl) (by decide) (by decide) (by decide) (by decide) at_597 600 rfl ?_
  rintro T h_10 _ L_10 X e_10 ⟨t_10, ht_10, rfl, rfl, hh_10, p_10, q_10⟩
  have N0 : Fr n0 _ := Fr.app N0 (Fr.nil n0)
  refine o_iload C X at_600 602 rfl rfl ?_
  have cc := own_ct IV' ht_10 p_10 q_10
  refine o_icmpN C X at_602 605 rfl (teq (by
    have : ¬ CT gg pp t_10 = 1 := fun q => (fun hm => by
      rcases hm with ((((h | h) | h) | h) | h) | h
      · exact ((own_fi _ _ _).mpr h) v1
      · exact ((own_fi _ _ _).mpr h) v2
      · exact ((own_fi _ _ _).mpr h) v3
      · exact ((own_fi _ _ _).mpr h) v4
      · exact ((own_fi _ _ _).mpr h) v5
      · exact ((own_fi _ _ _).mpr h) v6) (cc.mp q)
    rcases own_ct01 gg pp t_10 with h | h
    · exact h
    · exact absurd h this : (CT gg pp t_10) = (0 : Int32))).2 ?_
  refine o_iconst C X at_605 606 rfl (1 : Int32) (by decide) ?_
  refine o_goto C X at_606 610 (by decide) (by decide) ?_
  exact o_retN C X hret (by simp) hlk at_610 ⟨congrArg some (congrArg _ (rfl)), N0⟩ (by decide) (by decide)
set_option maxRecDepth 65536 in
set_option maxHeartbeats 40000000 in
theorem comes_1 {Post : Tables → Env → Array Value → State → Outcome → State → Prop} (hpost : ∀ tb e args s v u, (limb_1_1.after args s (.returned v) u = true ∧ limb_1_2.after args s (.returned v) u = true ∧ True) → FrameEnd s (.returned v) u (Jvm.fieldLocs frame_1_writes args s ++ Jvm.arrayLocs frame_1_arrays args s ++ Jvm.staticLocs frame_1_statics s) 24 192 → Post tb e args s (.returned v) u) :
    ArmFor flags0 classFile x code maxLocals ret World_1 tables_1 room_1 Calls_1 rest_1 Pre_1 Post := by
  intro l hfl _ _ p e ha hc hk s m args below hf hA hF happ hP
  obtain ⟨hcalls, hrest, hpre⟩ := hP
  obtain ⟨-, -, -, hnamed, -, -, -, hat⟩ := (Spec.applies_iff hf).mp happ
  obtain ⟨hg, hn⟩ := and_e (Cond.before_iff.mp (show (Jvm.Cond.and given_1 narrow_1).before args s = true from hpre))
  obtain ⟨g0, g1⟩ := and_e hg
  obtain ⟨w0, w1, w2, w3, rfl⟩ : ∃ w0 w1 w2 w3 : Value, args = #[w0, w1, w2, w3] := by
    have hs : args.size = 4 := by simpa [Cond.value, given_1] using g0
    obtain ⟨L⟩ := args
    match L, hs with
    | [w0, w1, w2, w3], _ => exact ⟨w0, w1, w2, w3, rfl⟩
  have hw := fun d (hd : d ∈ tables_1) => atoms_spec (ws := Jvm.Cond.code x code maxLocals ret :: tables_1) hat d (List.mem_cons_of_mem _ hd)
  have hfit : Fit s := fun {y c} hc i hi => by
    obtain ⟨ha, rfl⟩ := Array.getElem?_eq_some_iff.mp hc
    have q := List.all_eq_true.mp ((Array.all_eq_true_iff_forall_mem.mp hF) _ (Array.getElem_mem ha)) i (List.mem_range.mpr hi)
    simpa [Array.getElem?_eq_getElem hi] using q
  obtain ⟨f0, g1⟩ := and_e g1
  obtain ⟨i0, e0⟩ := is_v f0
  obtain rfl : w0 = (.int i0) := Option.some.inj e0
  obtain ⟨f1, g1⟩ := and_e g1
  obtain ⟨i1, e1⟩ := is_v f1
  obtain rfl : w1 = (.int i1) := Option.some.inj e1
  obtain ⟨f2, g1⟩ := and_e g1
  obtain ⟨i2, e2⟩ := is_v f2
  obtain rfl : w2 = (.int i2) := Option.some.inj e2
  have f3 := g1
  obtain ⟨i3, e3⟩ := is_v f3
  obtain rfl : w3 = (.int i3) := Option.some.inj e3
  obtain ⟨n, o, h1, h2, h3, _, L, rfl, ⟨rfl, N⟩, hq⟩ := rm0 l s _ hw i0 i1 i2 i3 s.heap s.heap.size (Nat.le_refl _) p e ha hc hk s m _ below hf ((Spec.applies_iff_loose hf).mp happ).1 ⟨rfl, State.Warmed39.refl s, rfl⟩ trivial
  exact ⟨n, _, h1, h2, h3, hpost _ _ _ _ _ _ ⟨Cond.after_iff.mpr rfl, Cond.after_iff.mpr (eq_i res_at (Term.int_eval (1)) rfl), trivial⟩ ⟨hq.1, hq.2.1, (hq.2.2.sift fun y hy => Or.inr (N y hy)).mono (by decide) (by decide)⟩⟩
theorem main_1_1 : Claimed_1_1 := comes_1 fun _ _ _ _ _ _ h hF => ⟨h.1, hF⟩
theorem main_1_2 : Claimed_1_2 := comes_1 fun _ _ _ _ _ _ h hF => ⟨h.2.1, hF⟩
end Jvm.Pilot.@@N@@
namespace Jvm.Pilot.@@N@@
open Jvm Jvm.ClassFile Sem Op Lib Jvm.Free Jvm.Stand Jvm.Pilot.@@N@@.Jvm.D
/-! MADE BY PROGRAM (witnessworld.py) out of the Statement's table words and the real class files: 13 classes; the members and pool entries that the words name. The judged class is class 1, her method 3. -/
namespace start1
open Jvm.ClassFile
def u (s : String) : CpInfo := .utf8 (stringToUtf16 s)
/-- a pool by its gaps: so many unusable entries, then the entry; so many at the end -/
def gap : Nat → List CpInfo → List CpInfo
  | 0, r => r
  | n + 1, r => .unusable :: gap n r
def poolList (es : List (Nat × CpInfo)) (last : Nat) : List CpInfo := es.foldr (fun e r => gap e.1 (e.2 :: r)) (gap last [])
def pool (es : List (Nat × CpInfo)) (last : Nat) : Array CpInfo := ⟨poolList es last⟩
def fileOf (pool : Array CpInfo) (this : Nat) (attrs : Array Attribute := #[]) (ms : Array MethodInfo := #[]) (fl : Nat := 33) (sup : Nat := 0) (ifs : Array Nat := #[]) (fds : Array FieldInfo := #[]) : ClassFile where
  minorVersion := 0
  majorVersion := 65
  constantPool := pool
  accessFlags := fl
  thisClass := this
  superClass := sup
  interfaces := ifs
  fields := fds
  methods := ms
  attributes := attrs
def plain (name : String) (sup : Option ClassId) : Class where
  name := name
  kind := .ordinary
  loader := none
  accessFlags := 33
  super := sup
  interfaces := #[]
  cf := none
  fields := #[]
  methods := #[]
  instanceTypes := #[]
  staticTypes := #[]
  resolved := #[]
  callSites := []
  init := .initialized
  statics := none
  mirror := none

def pool0 : Array CpInfo := pool [(5, u "<init>"), (0, u "()V"), (1, .class_ 10), (1, u "java/lang/Object"), (85, u "clone"), (0, u "()Ljava/lang/Object;")] 26

def k0c0 : Code := { maxStack := 0, maxLocals := 1, code := object_method_1_code, exceptionTable := #[], attributes := #[] }
def k0m0 : Method := { name := "<init>", desc := "()V", sig := { parameters := [], returnType := none }, accessFlags := 1, code := some k0c0 }
def k0m1 : Method := { name := "clone", desc := "()Ljava/lang/Object;", sig := { parameters := [], returnType := some (.object "java/lang/Object") }, accessFlags := 260, code := none }
/-- java/lang/Object -/
def k0 : Class := { plain "java/lang/Object" none with
  accessFlags := 33
  interfaces := #[]
  cf := some (fileOf pool0 8 #[] #[{ accessFlags := 1, nameIndex := 5, descriptorIndex := 6, attributes := #[] }, { accessFlags := 260, nameIndex := 96, descriptorIndex := 97, attributes := #[] }] 33 0 #[] #[])
  fields := #[]
  methods := #[k0m0, k0m1]
  instanceTypes := #[]
  staticTypes := #[]
  resolved := Array.replicate 124 none
  statics := none }

def pool1 : Array CpInfo := pool [(2, .class_ 4), (0, .nameAndType 5 6), (0, u "java/lang/Object"), (0, u "<init>"), (0, u "()V"), (0, .integer 2147483647), (0, .integer 1113984), (0, .class_ 10), (0, u "com/example/scanloom/scanloom/lexer/CodePointSet$Builder"), (0, .methodref 9 3), (0, .methodref 9 13), (0, .nameAndType 14 15), (0, u "add"), (0, u "(II)Lcom/example/scanloom/scanloom/lexer/CodePointSet$Builder;"), (0, .methodref 9 17), (0, .nameAndType 18 19), (0, u "build"), (0, u "()Lcom/example/scanloom/scanloom/lexer/CodePointSet;"), (0, .methodref 21 22), (0, .class_ 23), (0, .nameAndType 24 25), (0, u "com/example/scanloom/scanloom/lexer/CodePointSet"), (0, u "ranges"), (0, u "()[I"), (0, .methodref 27 28), (0, .class_ 29), (0, .nameAndType 30 31), (0, u "com/example/scanloom/scanloom/lexer/BuilderAddPinLaw"), (0, u "ok"), (0, u "([II)Z"), (0, .methodref 27 33), (0, .nameAndType 34 35), (0, u "in"), (0, u "(III)Z"), (0, .methodref 21 37), (0, .nameAndType 38 39), (0, u "contains"), (0, u "(I)Z"), (3, u "law"), (0, u "(IIII)Z")] 6

def k1m0 : Method := { name := "<init>", desc := "()V", sig := { parameters := [], returnType := none }, accessFlags := 1, code := none }
def k1c1 : Code := { maxStack := 2, maxLocals := 3, code := method_2_code, exceptionTable := #[], attributes := #[] }
def k1m1 : Method := { name := "in", desc := "(III)Z", sig := { parameters := [.int, .int, .int], returnType := some .boolean }, accessFlags := 10, code := some k1c1 }
def k1c2 : Code := { maxStack := 4, maxLocals := 2, code := method_3_code, exceptionTable := #[], attributes := #[] }
def k1m2 : Method := { name := "ok", desc := "([II)Z", sig := { parameters := [(.array .int), .int], returnType := some .boolean }, accessFlags := 10, code := some k1c2 }
def k1c3 : Code := { maxStack := 4, maxLocals := 30, code := code, exceptionTable := #[], attributes := #[] }
def k1m3 : Method := { name := "law", desc := "(IIII)Z", sig := { parameters := [.int, .int, .int, .int], returnType := some .boolean }, accessFlags := 9, code := some k1c3 }
/-- com/example/scanloom/scanloom/lexer/BuilderAddPinLaw -/
def k1 : Class := { plain "com/example/scanloom/scanloom/lexer/BuilderAddPinLaw" (some 0) with
  accessFlags := 49
  interfaces := #[]
  cf := some (fileOf pool1 27 #[] #[{ accessFlags := 1, nameIndex := 5, descriptorIndex := 6, attributes := #[] }, { accessFlags := 10, nameIndex := 34, descriptorIndex := 35, attributes := #[] }, { accessFlags := 10, nameIndex := 30, descriptorIndex := 31, attributes := #[] }, { accessFlags := 9, nameIndex := 43, descriptorIndex := 44, attributes := #[] }] 49 2 #[] #[])
  fields := #[]
  methods := #[k1m0, k1m1, k1m2, k1m3]
  instanceTypes := #[]
  staticTypes := #[]
  resolved := Array.replicate 51 none
  statics := none }

def pool2 : Array CpInfo := pool [(1, .methodref 2 3), (0, .class_ 4), (0, .nameAndType 5 6), (0, u "java/lang/Object"), (0, u "<init>"), (0, u "()V"), (0, .fieldref 8 9), (0, .class_ 10), (0, .nameAndType 11 12), (0, u "com/example/scanloom/scanloom/lexer/CodePointSet$Builder"), (0, u "ranges"), (0, u "[I"), (0, .fieldref 8 14), (0, .nameAndType 15 16), (0, u "count"), (0, u "I"), (0, .methodref 18 19), (0, .class_ 20), (0, .nameAndType 21 22), (0, u "java/util/Arrays"), (0, u "copyOf"), (0, u "([II)[I"), (0, .class_ 24), (0, u "com/example/scanloom/scanloom/lexer/CodePointSet"), (0, .methodref 23 26), (0, .nameAndType 5 27), (0, u "([I)V"), (2, u "add"), (0, u "(II)Lcom/example/scanloom/scanloom/lexer/CodePointSet$Builder;"), (1, u "build"), (0, u "()Lcom/example/scanloom/scanloom/lexer/CodePointSet;")] 5

def k2c0 : Code := { maxStack := 2, maxLocals := 1, code := prog_25_method_1_code, exceptionTable := #[], attributes := #[] }
def k2m0 : Method := { name := "<init>", desc := "()V", sig := { parameters := [], returnType := none }, accessFlags := 0, code := some k2c0 }
def k2c1 : Code := { maxStack := 5, maxLocals := 3, code := prog_25_method_2_code, exceptionTable := #[], attributes := #[] }
def k2m1 : Method := { name := "add", desc := "(II)Lcom/example/scanloom/scanloom/lexer/CodePointSet$Builder;", sig := { parameters := [.int, .int], returnType := some (.object "com/example/scanloom/scanloom/lexer/CodePointSet$Builder") }, accessFlags := 0, code := some k2c1 }
def k2c2 : Code := { maxStack := 4, maxLocals := 1, code := prog_25_method_3_code, exceptionTable := #[], attributes := #[] }
def k2m2 : Method := { name := "build", desc := "()Lcom/example/scanloom/scanloom/lexer/CodePointSet;", sig := { parameters := [], returnType := some (.object "com/example/scanloom/scanloom/lexer/CodePointSet") }, accessFlags := 0, code := some k2c2 }
/-- com/example/scanloom/scanloom/lexer/CodePointSet$Builder -/
def k2 : Class := { plain "com/example/scanloom/scanloom/lexer/CodePointSet$Builder" (some 0) with
  accessFlags := 48
  interfaces := #[]
  cf := some (fileOf pool2 8 #[.nestHost 23] #[{ accessFlags := 0, nameIndex := 5, descriptorIndex := 6, attributes := #[] }, { accessFlags := 0, nameIndex := 30, descriptorIndex := 31, attributes := #[] }, { accessFlags := 0, nameIndex := 33, descriptorIndex := 34, attributes := #[] }] 48 2 #[] #[{ accessFlags := 2, nameIndex := 11, descriptorIndex := 12, attributes := #[] }, { accessFlags := 2, nameIndex := 15, descriptorIndex := 16, attributes := #[] }])
  fields := #[{ name := "ranges", type := (.array .int), accessFlags := 2, slot := 0, constantValue := 0 }, { name := "count", type := .int, accessFlags := 2, slot := 1, constantValue := 0 }]
  methods := #[k2m0, k2m1, k2m2]
  instanceTypes := #[(.array .int), .int]
  staticTypes := #[]
  resolved := Array.replicate 40 none
  statics := none }

def pool3 : Array CpInfo := pool [(3, .methodref 4 5), (0, .class_ 6), (0, .nameAndType 7 8), (0, u "java/lang/Object"), (0, u "<init>"), (0, u "()V"), (0, .fieldref 10 11), (0, .class_ 12), (0, .nameAndType 13 14), (0, u "com/example/scanloom/scanloom/lexer/CodePointSet"), (0, u "ranges"), (0, u "[I"), (16, u "([I)V"), (41, u "EMPTY"), (0, u "Lcom/example/scanloom/scanloom/lexer/CodePointSet;"), (32, u "MAX_CODE_POINT"), (0, u "I"), (13, u "contains"), (0, u "(I)Z"), (0, u "()[I"), (10, .class_ 136), (0, u "com/example/scanloom/scanloom/lexer/CodePointSet$Builder")] 16

def k3c0 : Code := { maxStack := 2, maxLocals := 2, code := prog_24_method_1_code, exceptionTable := #[], attributes := #[] }
def k3m0 : Method := { name := "<init>", desc := "([I)V", sig := { parameters := [(.array .int)], returnType := none }, accessFlags := 2, code := some k3c0 }
def k3c1 : Code := { maxStack := 4, maxLocals := 5, code := prog_24_method_7_code, exceptionTable := #[], attributes := #[] }
def k3m1 : Method := { name := "contains", desc := "(I)Z", sig := { parameters := [.int], returnType := some .boolean }, accessFlags := 1, code := some k3c1 }
def k3c2 : Code := { maxStack := 1, maxLocals := 1, code := prog_24_method_9_code, exceptionTable := #[], attributes := #[] }
def k3m2 : Method := { name := "ranges", desc := "()[I", sig := { parameters := [], returnType := some (.array .int) }, accessFlags := 0, code := some k3c2 }
/-- com/example/scanloom/scanloom/lexer/CodePointSet -/
def k3 : Class := { plain "com/example/scanloom/scanloom/lexer/CodePointSet" (some 0) with
  accessFlags := 49
  interfaces := #[]
  cf := some (fileOf pool3 10 #[.nestMembers #[135]] #[{ accessFlags := 2, nameIndex := 7, descriptorIndex := 31, attributes := #[] }, { accessFlags := 1, nameIndex := 122, descriptorIndex := 123, attributes := #[] }, { accessFlags := 0, nameIndex := 13, descriptorIndex := 124, attributes := #[] }] 49 4 #[] #[{ accessFlags := 24, nameIndex := 107, descriptorIndex := 108, attributes := #[] }, { accessFlags := 24, nameIndex := 73, descriptorIndex := 74, attributes := #[] }, { accessFlags := 18, nameIndex := 13, descriptorIndex := 14, attributes := #[] }])
  fields := #[{ name := "MAX_CODE_POINT", type := .int, accessFlags := 24, slot := 0, constantValue := 0 }, { name := "EMPTY", type := (.object "com/example/scanloom/scanloom/lexer/CodePointSet"), accessFlags := 24, slot := 1, constantValue := 0 }, { name := "ranges", type := (.array .int), accessFlags := 18, slot := 0, constantValue := 0 }]
  methods := #[k3m0, k3m1, k3m2]
  instanceTypes := #[(.array .int)]
  staticTypes := #[.int, (.object "com/example/scanloom/scanloom/lexer/CodePointSet")]
  resolved := Array.replicate 153 none
  statics := none }

def pool4 : Array CpInfo := pool [(2, .class_ 4), (1, u "java/lang/Object"), (0, u "<init>"), (0, u "()V"), (7, .class_ 16), (1, u "java/util/Arrays"), (57, .class_ 76), (1, u "java/util/Arrays$NaturalOrder"), (32, u "()Ljava/lang/Object;"), (3, .class_ 115), (1, u "java/util/Arrays$LegacyMergeSort"), (1, u "Z"), (10, .nameAndType 129 109), (0, u "clone"), (20, .methodref 151 152), (0, .class_ 153), (0, .nameAndType 154 155), (0, u "java/lang/System"), (0, u "arraycopy"), (0, u "(Ljava/lang/Object;ILjava/lang/Object;II)V"), (146, u "copyOf"), (1, .methodref 305 306), (0, .class_ 307), (0, .nameAndType 308 309), (0, u "java/lang/Math"), (0, u "min"), (0, u "(II)I"), (6, .methodref 317 128), (0, .class_ 318), (0, u "[I"), (56, .class_ 376), (0, u "java/util/Arrays$ArrayList"), (68, u "$assertionsDisabled"), (269, u "MIN_ARRAY_SORT_GRAN"), (0, u "I"), (2, u "INSERTIONSORT_THRESHOLD"), (151, u "([II)[I"), (103, .class_ 976), (0, u "java/util/Arrays$ArrayItr")] 52

def k4m0 : Method := { name := "<init>", desc := "()V", sig := { parameters := [], returnType := none }, accessFlags := 2, code := none }
def k4c1 : Code := { maxStack := 6, maxLocals := 3, code := jdk_65_method_123_code, exceptionTable := #[], attributes := #[] }
def k4m1 : Method := { name := "copyOf", desc := "([II)[I", sig := { parameters := [(.array .int), .int], returnType := some (.array .int) }, accessFlags := 9, code := some k4c1 }
/-- java/util/Arrays -/
def k4 : Class := { plain "java/util/Arrays" (some 0) with
  accessFlags := 49
  interfaces := #[]
  cf := some (fileOf pool4 14 #[.nestMembers #[975, 375, 113, 74]] #[{ accessFlags := 2, nameIndex := 5, descriptorIndex := 6, attributes := #[] }, { accessFlags := 9, nameIndex := 302, descriptorIndex := 871, attributes := #[] }] 49 2 #[] #[{ accessFlags := 26, nameIndex := 715, descriptorIndex := 716, attributes := #[] }, { accessFlags := 26, nameIndex := 719, descriptorIndex := 716, attributes := #[] }, { accessFlags := 4120, nameIndex := 445, descriptorIndex := 117, attributes := #[] }])
  fields := #[{ name := "MIN_ARRAY_SORT_GRAN", type := .int, accessFlags := 26, slot := 0, constantValue := 0 }, { name := "INSERTIONSORT_THRESHOLD", type := .int, accessFlags := 26, slot := 1, constantValue := 0 }, { name := "$assertionsDisabled", type := .boolean, accessFlags := 4120, slot := 2, constantValue := 0 }]
  methods := #[k4m0, k4m1]
  instanceTypes := #[]
  staticTypes := #[.int, .int, .boolean]
  resolved := Array.replicate 1029 none
  statics := none }

def pool5 : Array CpInfo := pool [(1, .class_ 2), (0, u "java/lang/Math"), (1, .class_ 6), (1, u "java/lang/Object"), (0, u "<init>"), (0, u "()V"), (89, .class_ 100), (1, u "java/lang/Math$RandomNumberGeneratorHolder"), (71, u "negativeZeroFloatBits"), (0, u "J"), (2, u "negativeZeroDoubleBits"), (24, u "min"), (43, u "$assertionsDisabled"), (0, u "Z"), (88, u "(II)I"), (2, u "twoToTheDoubleScaleDown"), (0, u "D"), (4, u "twoToTheDoubleScaleUp"), (9, u "E"), (3, u "PI"), (2, u "TAU"), (2, u "DEGREES_TO_RADIANS"), (0, u "RADIANS_TO_DEGREES")] 94

def k5m0 : Method := { name := "<init>", desc := "()V", sig := { parameters := [], returnType := none }, accessFlags := 2, code := none }
def k5c1 : Code := { maxStack := 2, maxLocals := 2, code := jdk_29_method_69_code, exceptionTable := #[], attributes := #[] }
def k5m1 : Method := { name := "min", desc := "(II)I", sig := { parameters := [.int, .int], returnType := some .int }, accessFlags := 9, code := some k5c1 }
/-- java/lang/Math -/
def k5 : Class := { plain "java/lang/Math" (some 0) with
  accessFlags := 49
  interfaces := #[]
  cf := some (fileOf pool5 1 #[.nestMembers #[98]] #[{ accessFlags := 2, nameIndex := 7, descriptorIndex := 8, attributes := #[] }, { accessFlags := 9, nameIndex := 201, descriptorIndex := 335, attributes := #[] }] 49 4 #[] #[{ accessFlags := 25, nameIndex := 354, descriptorIndex := 339, attributes := #[] }, { accessFlags := 25, nameIndex := 358, descriptorIndex := 339, attributes := #[] }, { accessFlags := 25, nameIndex := 361, descriptorIndex := 339, attributes := #[] }, { accessFlags := 26, nameIndex := 364, descriptorIndex := 339, attributes := #[] }, { accessFlags := 26, nameIndex := 365, descriptorIndex := 339, attributes := #[] }, { accessFlags := 26, nameIndex := 172, descriptorIndex := 173, attributes := #[] }, { accessFlags := 26, nameIndex := 176, descriptorIndex := 173, attributes := #[] }, { accessFlags := 8, nameIndex := 344, descriptorIndex := 339, attributes := #[] }, { accessFlags := 8, nameIndex := 338, descriptorIndex := 339, attributes := #[] }, { accessFlags := 4120, nameIndex := 245, descriptorIndex := 246, attributes := #[] }])
  fields := #[{ name := "E", type := .double, accessFlags := 25, slot := 0, constantValue := 0 }, { name := "PI", type := .double, accessFlags := 25, slot := 1, constantValue := 0 }, { name := "TAU", type := .double, accessFlags := 25, slot := 2, constantValue := 0 }, { name := "DEGREES_TO_RADIANS", type := .double, accessFlags := 26, slot := 3, constantValue := 0 }, { name := "RADIANS_TO_DEGREES", type := .double, accessFlags := 26, slot := 4, constantValue := 0 }, { name := "negativeZeroFloatBits", type := .long, accessFlags := 26, slot := 5, constantValue := 0 }, { name := "negativeZeroDoubleBits", type := .long, accessFlags := 26, slot := 6, constantValue := 0 }, { name := "twoToTheDoubleScaleUp", type := .double, accessFlags := 8, slot := 7, constantValue := 0 }, { name := "twoToTheDoubleScaleDown", type := .double, accessFlags := 8, slot := 8, constantValue := 0 }, { name := "$assertionsDisabled", type := .boolean, accessFlags := 4120, slot := 9, constantValue := 0 }]
  methods := #[k5m0, k5m1]
  instanceTypes := #[]
  staticTypes := #[.double, .double, .double, .double, .double, .long, .long, .double, .double, .boolean]
  resolved := Array.replicate 460 none
  statics := none }

def pool6 : Array CpInfo := pool [(2, .class_ 4), (1, u "java/lang/Object"), (0, u "<init>"), (0, u "()V"), (1, .class_ 10), (1, u "java/lang/System"), (0, u "allowSecurityManager"), (0, u "I"), (16, u "cons"), (0, u "Ljava/io/Console;"), (77, .class_ 110), (1, u "java/lang/System$CallersHolder"), (43, u "initialErrStream"), (0, u "Ljava/io/PrintStream;"), (19, u "security"), (0, u "Ljava/lang/SecurityManager;"), (31, .class_ 209), (0, u "java/lang/System$1"), (7, u "props"), (0, u "Ljava/util/Properties;"), (2, u "lineSeparator"), (0, u "Ljava/lang/String;"), (96, .class_ 321), (1, u "java/lang/System$LoggerFinder"), (5, .class_ 328), (0, u "java/lang/System$Logger"), (67, u "err"), (2, u "out"), (91, u "notSupportedJnuEncoding"), (15, u "in"), (17, u "initialIn"), (0, u "Ljava/io/InputStream;"), (35, u "bootLayer"), (0, u "Ljava/lang/ModuleLayer;"), (99, .class_ 664), (0, u "java/lang/System$2"), (9, u "NEVER"), (2, u "MAYBE"), (49, u "arraycopy"), (0, u "(Ljava/lang/Object;ILjava/lang/Object;II)V"), (72, .class_ 802), (0, u "java/lang/System$Logger$Level")] 31

def k6m0 : Method := { name := "<init>", desc := "()V", sig := { parameters := [], returnType := none }, accessFlags := 2, code := none }
def k6m1 : Method := { name := "arraycopy", desc := "(Ljava/lang/Object;ILjava/lang/Object;II)V", sig := { parameters := [(.object "java/lang/Object"), .int, (.object "java/lang/Object"), .int, .int], returnType := none }, accessFlags := 265, code := none }
/-- java/lang/System -/
def k6 : Class := { plain "java/lang/System" (some 0) with
  accessFlags := 49
  interfaces := #[]
  cf := some (fileOf pool6 8 #[.nestMembers #[319, 327, 801, 108, 663, 208]] #[{ accessFlags := 2, nameIndex := 5, descriptorIndex := 6, attributes := #[] }, { accessFlags := 265, nameIndex := 727, descriptorIndex := 728, attributes := #[] }] 49 2 #[] #[{ accessFlags := 25, nameIndex := 507, descriptorIndex := 526, attributes := #[] }, { accessFlags := 25, nameIndex := 399, descriptorIndex := 155, attributes := #[] }, { accessFlags := 25, nameIndex := 396, descriptorIndex := 155, attributes := #[] }, { accessFlags := 10, nameIndex := 525, descriptorIndex := 526, attributes := #[] }, { accessFlags := 26, nameIndex := 674, descriptorIndex := 12, attributes := #[] }, { accessFlags := 26, nameIndex := 677, descriptorIndex := 12, attributes := #[] }, { accessFlags := 10, nameIndex := 11, descriptorIndex := 12, attributes := #[] }, { accessFlags := 74, nameIndex := 175, descriptorIndex := 176, attributes := #[] }, { accessFlags := 10, nameIndex := 491, descriptorIndex := 222, attributes := #[] }, { accessFlags := 74, nameIndex := 29, descriptorIndex := 30, attributes := #[] }, { accessFlags := 74, nameIndex := 154, descriptorIndex := 155, attributes := #[] }, { accessFlags := 10, nameIndex := 217, descriptorIndex := 218, attributes := #[] }, { accessFlags := 10, nameIndex := 221, descriptorIndex := 222, attributes := #[] }, { accessFlags := 8, nameIndex := 562, descriptorIndex := 563, attributes := #[] }])
  fields := #[{ name := "in", type := (.object "java/io/InputStream"), accessFlags := 25, slot := 0, constantValue := 0 }, { name := "out", type := (.object "java/io/PrintStream"), accessFlags := 25, slot := 1, constantValue := 0 }, { name := "err", type := (.object "java/io/PrintStream"), accessFlags := 25, slot := 2, constantValue := 0 }, { name := "initialIn", type := (.object "java/io/InputStream"), accessFlags := 10, slot := 3, constantValue := 0 }, { name := "NEVER", type := .int, accessFlags := 26, slot := 4, constantValue := 0 }, { name := "MAYBE", type := .int, accessFlags := 26, slot := 5, constantValue := 0 }, { name := "allowSecurityManager", type := .int, accessFlags := 10, slot := 6, constantValue := 0 }, { name := "security", type := (.object "java/lang/SecurityManager"), accessFlags := 74, slot := 7, constantValue := 0 }, { name := "notSupportedJnuEncoding", type := (.object "java/lang/String"), accessFlags := 10, slot := 8, constantValue := 0 }, { name := "cons", type := (.object "java/io/Console"), accessFlags := 74, slot := 9, constantValue := 0 }, { name := "initialErrStream", type := (.object "java/io/PrintStream"), accessFlags := 74, slot := 10, constantValue := 0 }, { name := "props", type := (.object "java/util/Properties"), accessFlags := 10, slot := 11, constantValue := 0 }, { name := "lineSeparator", type := (.object "java/lang/String"), accessFlags := 10, slot := 12, constantValue := 0 }, { name := "bootLayer", type := (.object "java/lang/ModuleLayer"), accessFlags := 8, slot := 13, constantValue := 0 }]
  methods := #[k6m0, k6m1]
  instanceTypes := #[]
  staticTypes := #[(.object "java/io/InputStream"), (.object "java/io/PrintStream"), (.object "java/io/PrintStream"), (.object "java/io/InputStream"), .int, .int, .int, (.object "java/lang/SecurityManager"), (.object "java/lang/String"), (.object "java/io/Console"), (.object "java/io/PrintStream"), (.object "java/util/Properties"), (.object "java/lang/String"), (.object "java/lang/ModuleLayer")]
  resolved := Array.replicate 834 none
  statics := none }

def pool7 : Array CpInfo := pool [(1, .class_ 2), (0, u "java/lang/Cloneable"), (0, .class_ 4), (0, u "java/lang/Object")] 2

/-- java/lang/Cloneable -/
def k7 : Class := { plain "java/lang/Cloneable" (some 0) with
  accessFlags := 1537
  interfaces := #[]
  cf := some (fileOf pool7 1 #[] #[] 1537 3 #[] #[])
  fields := #[]
  methods := #[]
  instanceTypes := #[]
  staticTypes := #[]
  resolved := Array.replicate 7 none
  statics := none }

def pool8 : Array CpInfo := pool [(1, u "java/io/Serializable"), (0, .class_ 1), (0, u "java/lang/Object"), (0, .class_ 3)] 3

/-- java/io/Serializable -/
def k8 : Class := { plain "java/io/Serializable" (some 0) with
  accessFlags := 1537
  interfaces := #[]
  cf := some (fileOf pool8 2 #[] #[] 1537 4 #[] #[])
  fields := #[]
  methods := #[]
  instanceTypes := #[]
  staticTypes := #[]
  resolved := Array.replicate 8 none
  statics := none }

/-- the primitive byte -/
def k9 : Class := { plain "byte" none with kind := .primitive 'B', accessFlags := 0x411 }
/-- [B -/
def k10 : Class := { plain "[B" (some 0) with kind := .array 9 .byte, interfaces := #[7, 8], accessFlags := 1041 }

/-- the primitive int -/
def k11 : Class := { plain "int" none with kind := .primitive 'I', accessFlags := 0x411 }
/-- [I -/
def k12 : Class := { plain "[I" (some 0) with kind := .array 11 .int, interfaces := #[7, 8], accessFlags := 1041 }

def heap : Heap := #[]
def classes : Array Class := #[k0, k1, k2, k3, k4, k5, k6, k7, k8, k9, k10, k11, k12]
def interned : List (Array UInt16 × Addr) := []
def slotsUsed : Nat := 0
def theMethod : MethodId := ⟨1, 3⟩
def args0 : Array Value := #[.int 3, .int 9, .int 4, .int 3]
def aboutOver (below : List Frame) : State where
  vm := { classes := classes, interned := interned.toArray }
  heap := heap
  slotsUsed := slotsUsed
  threads := #[{ frames := .invoking theMethod args0 :: below }]
def below0 : List Frame := [.native { method := ⟨0, 0⟩, args := #[] }]
def about1 : State := aboutOver below0
def p0 : Program := .bare "" "" ""
def e0 : Env := launch0.env 0 0 0
theorem w_frames : about1.frames = Frame.invoking theMethod args0 :: below0 := rfl
set_option maxRecDepth 65536 in
theorem w_args : argsFit about1.vm theMethod args0 = true := by decide +kernel
set_option maxRecDepth 65536 in
theorem w_heap : heapFits about1 = true := by decide +kernel
set_option maxRecDepth 65536 in
theorem w_runnable : about1.curStatus? = some .runnable := by decide +kernel
set_option maxRecDepth 65536 in
theorem w_alone : about1.alone = true := by decide +kernel
set_option maxRecDepth 65536 in
theorem w_named : about1.methodNamed? x = some theMethod := by decide +kernel
set_option maxRecDepth 65536 in
theorem w_hears : about1.hears theMethod below0 = true := by decide +kernel
set_option maxRecDepth 65536 in
theorem w_ripe : about1.ripe theMethod args0 below0 = true := by decide +kernel
theorem w_running : about1.status = .running := rfl
set_option maxRecDepth 65536 in
theorem w_room : about1.hasRoom e0.platform room_1 = true :=
  launch0.hasRoom_least _ room_1 (by decide +kernel) (by decide +kernel) (by decide +kernel) (by decide +kernel) (by decide +kernel) (by decide +kernel)
theorem allAtoms_all (ts : List Jvm.Cond) (a : Array Jvm.Value) (st : Jvm.State) : (allAtoms ts).before a st = ts.all (fun c => c.before a st) := by
  induction ts with
  | nil => rfl
  | cons c t ih =>
    show (Jvm.Cond.and c (allAtoms t)).before a st = _
    rw [Jvm.Cond.before_and, ih, List.all_cons]
def words1 : List Jvm.Cond := Jvm.Cond.code x code maxLocals ret :: tables_1
/-- a 'code' word, met by the world's own term for the bytes: nothing is compared byte by byte -/
theorem code_word {y : MethodName} {bytes : ByteArray} {mx : Nat} {rt : Option FieldType} {a : Array Value} {s : State} {m : MethodId} {meth : Method} {c : Code} (h1 : s.methodNamed? y = some m) (h2 : s.vm.method? m = some meth) (h3 : meth.code = some c) (h4 : c.code = bytes)
    (h5 : (c.maxLocals == mx && c.exceptionTable.isEmpty && decide (c.maxStack ≤ mostOperands) && decide (meth.sig.returnType = rt) && !meth.locks && decide (parseMethodDescriptor y.desc = some meth.sig)) = true) : (Jvm.Cond.code y bytes mx rt).before a s = true := by
  simp only [Bool.and_eq_true, beq_iff_eq, Bool.not_eq_true', decide_eq_true_eq] at h5
  obtain ⟨⟨⟨⟨⟨g1, g2⟩, g3⟩, g4⟩, g5⟩, g6⟩ := h5
  simp [Cond.before, Cond.holds, Cond.value, h1, h2, h3, h4, g1, g2, g3, g4, g5, g6]
def isCode : Jvm.Cond → Bool
  | .code _ _ _ _ => true
  | _ => false
theorem all_split {L : List Jvm.Cond} {P : Jvm.Cond → Bool} (h1 : L.all (fun c => isCode c || P c) = true) (h2 : ∀ c ∈ L.filter isCode, P c = true) : L.all P = true := by
  refine List.all_eq_true.mpr fun c hc => ?_
  have h := List.all_eq_true.mp h1 c hc
  rcases Bool.eq_false_or_eq_true (isCode c) with hi | hi
  · exact h2 c (List.mem_filter.mpr ⟨hc, hi⟩)
  · simpa [hi] using h
set_option maxRecDepth 65536 in
theorem w_c0 : (Jvm.Cond.code x code maxLocals ret).before args0 about1 = true := code_word (m := ⟨1, 3⟩) (meth := k1m3) (c := k1c3) (by decide +kernel) rfl rfl rfl (by decide +kernel)
set_option maxRecDepth 65536 in
theorem w_c1 : (Jvm.Cond.code ({ cls := "com/example/scanloom/scanloom/lexer/CodePointSet$Builder", name := "<init>", desc := "()V" } : Jvm.MethodName) prog_25_method_1_code (1 : Nat) (Option.none : Option Jvm.ClassFile.FieldType)).before args0 about1 = true := code_word (m := ⟨2, 0⟩) (meth := k2m0) (c := k2c0) (by decide +kernel) rfl rfl rfl (by decide +kernel)
set_option maxRecDepth 65536 in
theorem w_c2 : (Jvm.Cond.code ({ cls := "java/lang/Object", name := "<init>", desc := "()V" } : Jvm.MethodName) object_method_1_code (1 : Nat) (Option.none : Option Jvm.ClassFile.FieldType)).before args0 about1 = true := code_word (m := ⟨0, 0⟩) (meth := k0m0) (c := k0c0) (by decide +kernel) rfl rfl rfl (by decide +kernel)
set_option maxRecDepth 65536 in
theorem w_c3 : (Jvm.Cond.code ({ cls := "com/example/scanloom/scanloom/lexer/CodePointSet$Builder", name := "add", desc := "(II)Lcom/example/scanloom/scanloom/lexer/CodePointSet$Builder;" } : Jvm.MethodName) prog_25_method_2_code (3 : Nat) (Option.some (Jvm.ClassFile.FieldType.object "com/example/scanloom/scanloom/lexer/CodePointSet$Builder"))).before args0 about1 = true := code_word (m := ⟨2, 1⟩) (meth := k2m1) (c := k2c1) (by decide +kernel) rfl rfl rfl (by decide +kernel)
set_option maxRecDepth 65536 in
theorem w_c4 : (Jvm.Cond.code ({ cls := "com/example/scanloom/scanloom/lexer/CodePointSet$Builder", name := "build", desc := "()Lcom/example/scanloom/scanloom/lexer/CodePointSet;" } : Jvm.MethodName) prog_25_method_3_code (1 : Nat) (Option.some (Jvm.ClassFile.FieldType.object "com/example/scanloom/scanloom/lexer/CodePointSet"))).before args0 about1 = true := code_word (m := ⟨2, 2⟩) (meth := k2m2) (c := k2c2) (by decide +kernel) rfl rfl rfl (by decide +kernel)
set_option maxRecDepth 65536 in
theorem w_c5 : (Jvm.Cond.code ({ cls := "java/util/Arrays", name := "copyOf", desc := "([II)[I" } : Jvm.MethodName) jdk_65_method_123_code (3 : Nat) (Option.some (Jvm.ClassFile.FieldType.array Jvm.ClassFile.FieldType.int))).before args0 about1 = true := code_word (m := ⟨4, 1⟩) (meth := k4m1) (c := k4c1) (by decide +kernel) rfl rfl rfl (by decide +kernel)
set_option maxRecDepth 65536 in
theorem w_c6 : (Jvm.Cond.code ({ cls := "java/lang/Math", name := "min", desc := "(II)I" } : Jvm.MethodName) jdk_29_method_69_code (2 : Nat) (Option.some Jvm.ClassFile.FieldType.int)).before args0 about1 = true := code_word (m := ⟨5, 1⟩) (meth := k5m1) (c := k5c1) (by decide +kernel) rfl rfl rfl (by decide +kernel)
set_option maxRecDepth 65536 in
theorem w_c7 : (Jvm.Cond.code ({ cls := "com/example/scanloom/scanloom/lexer/CodePointSet", name := "<init>", desc := "([I)V" } : Jvm.MethodName) prog_24_method_1_code (2 : Nat) (Option.none : Option Jvm.ClassFile.FieldType)).before args0 about1 = true := code_word (m := ⟨3, 0⟩) (meth := k3m0) (c := k3c0) (by decide +kernel) rfl rfl rfl (by decide +kernel)
set_option maxRecDepth 65536 in
theorem w_c8 : (Jvm.Cond.code ({ cls := "com/example/scanloom/scanloom/lexer/CodePointSet", name := "ranges", desc := "()[I" } : Jvm.MethodName) prog_24_method_9_code (1 : Nat) (Option.some (Jvm.ClassFile.FieldType.array Jvm.ClassFile.FieldType.int))).before args0 about1 = true := code_word (m := ⟨3, 2⟩) (meth := k3m2) (c := k3c2) (by decide +kernel) rfl rfl rfl (by decide +kernel)
set_option maxRecDepth 65536 in
theorem w_c9 : (Jvm.Cond.code ({ cls := "com/example/scanloom/scanloom/lexer/BuilderAddPinLaw", name := "ok", desc := "([II)Z" } : Jvm.MethodName) method_3_code (2 : Nat) (Option.some Jvm.ClassFile.FieldType.boolean)).before args0 about1 = true := code_word (m := ⟨1, 2⟩) (meth := k1m2) (c := k1c2) (by decide +kernel) rfl rfl rfl (by decide +kernel)
set_option maxRecDepth 65536 in
theorem w_c10 : (Jvm.Cond.code ({ cls := "com/example/scanloom/scanloom/lexer/BuilderAddPinLaw", name := "in", desc := "(III)Z" } : Jvm.MethodName) method_2_code (3 : Nat) (Option.some Jvm.ClassFile.FieldType.boolean)).before args0 about1 = true := code_word (m := ⟨1, 1⟩) (meth := k1m1) (c := k1c1) (by decide +kernel) rfl rfl rfl (by decide +kernel)
set_option maxRecDepth 65536 in
theorem w_c11 : (Jvm.Cond.code ({ cls := "com/example/scanloom/scanloom/lexer/CodePointSet", name := "contains", desc := "(I)Z" } : Jvm.MethodName) prog_24_method_7_code (5 : Nat) (Option.some Jvm.ClassFile.FieldType.boolean)).before args0 about1 = true := code_word (m := ⟨3, 1⟩) (meth := k3m1) (c := k3c1) (by decide +kernel) rfl rfl rfl (by decide +kernel)
def codes1 : List Jvm.Cond := [Jvm.Cond.code x code maxLocals ret, Jvm.Cond.code ({ cls := "com/example/scanloom/scanloom/lexer/CodePointSet$Builder", name := "<init>", desc := "()V" } : Jvm.MethodName) prog_25_method_1_code (1 : Nat) (Option.none : Option Jvm.ClassFile.FieldType), Jvm.Cond.code ({ cls := "java/lang/Object", name := "<init>", desc := "()V" } : Jvm.MethodName) object_method_1_code (1 : Nat) (Option.none : Option Jvm.ClassFile.FieldType), Jvm.Cond.code ({ cls := "com/example/scanloom/scanloom/lexer/CodePointSet$Builder", name := "add", desc := "(II)Lcom/example/scanloom/scanloom/lexer/CodePointSet$Builder;" } : Jvm.MethodName) prog_25_method_2_code (3 : Nat) (Option.some (Jvm.ClassFile.FieldType.object "com/example/scanloom/scanloom/lexer/CodePointSet$Builder")), Jvm.Cond.code ({ cls := "com/example/scanloom/scanloom/lexer/CodePointSet$Builder", name := "build", desc := "()Lcom/example/scanloom/scanloom/lexer/CodePointSet;" } : Jvm.MethodName) prog_25_method_3_code (1 : Nat) (Option.some (Jvm.ClassFile.FieldType.object "com/example/scanloom/scanloom/lexer/CodePointSet")), Jvm.Cond.code ({ cls := "java/util/Arrays", name := "copyOf", desc := "([II)[I" } : Jvm.MethodName) jdk_65_method_123_code (3 : Nat) (Option.some (Jvm.ClassFile.FieldType.array Jvm.ClassFile.FieldType.int)), Jvm.Cond.code ({ cls := "java/lang/Math", name := "min", desc := "(II)I" } : Jvm.MethodName) jdk_29_method_69_code (2 : Nat) (Option.some Jvm.ClassFile.FieldType.int), Jvm.Cond.code ({ cls := "com/example/scanloom/scanloom/lexer/CodePointSet", name := "<init>", desc := "([I)V" } : Jvm.MethodName) prog_24_method_1_code (2 : Nat) (Option.none : Option Jvm.ClassFile.FieldType), Jvm.Cond.code ({ cls := "com/example/scanloom/scanloom/lexer/CodePointSet", name := "ranges", desc := "()[I" } : Jvm.MethodName) prog_24_method_9_code (1 : Nat) (Option.some (Jvm.ClassFile.FieldType.array Jvm.ClassFile.FieldType.int)), Jvm.Cond.code ({ cls := "com/example/scanloom/scanloom/lexer/BuilderAddPinLaw", name := "ok", desc := "([II)Z" } : Jvm.MethodName) method_3_code (2 : Nat) (Option.some Jvm.ClassFile.FieldType.boolean), Jvm.Cond.code ({ cls := "com/example/scanloom/scanloom/lexer/BuilderAddPinLaw", name := "in", desc := "(III)Z" } : Jvm.MethodName) method_2_code (3 : Nat) (Option.some Jvm.ClassFile.FieldType.boolean), Jvm.Cond.code ({ cls := "com/example/scanloom/scanloom/lexer/CodePointSet", name := "contains", desc := "(I)Z" } : Jvm.MethodName) prog_24_method_7_code (5 : Nat) (Option.some Jvm.ClassFile.FieldType.boolean)]
set_option maxRecDepth 65536 in
theorem codes_eq : words1.filter isCode = codes1 := rfl
theorem w_codes : ∀ c ∈ words1.filter isCode, c.before args0 about1 = true := by
  rw [codes_eq]
  intro c hc
  simp only [codes1, List.mem_cons, List.not_mem_nil, or_false] at hc
  rcases hc with rfl | rfl | rfl | rfl | rfl | rfl | rfl | rfl | rfl | rfl | rfl | rfl
  · exact w_c0
  · exact w_c1
  · exact w_c2
  · exact w_c3
  · exact w_c4
  · exact w_c5
  · exact w_c6
  · exact w_c7
  · exact w_c8
  · exact w_c9
  · exact w_c10
  · exact w_c11
set_option maxRecDepth 65536 in
theorem w_t1 : (words1.take 24).all (fun c => isCode c || c.before args0 about1) = true := by decide +kernel
set_option maxRecDepth 65536 in
theorem w_t2 : ((words1.drop 24).take 24).all (fun c => isCode c || c.before args0 about1) = true := by decide +kernel
set_option maxRecDepth 65536 in
theorem w_t3 : (((words1.drop 24).drop 24).take 24).all (fun c => isCode c || c.before args0 about1) = true := by decide +kernel
set_option maxRecDepth 65536 in
theorem w_t4 : (((words1.drop 24).drop 24).drop 24).all (fun c => isCode c || c.before args0 about1) = true := by decide +kernel
theorem w_tables : (allAtoms (Jvm.Cond.code x code maxLocals ret :: tables_1)).before args0 about1 = true := by
  rw [allAtoms_all]
  show words1.all (fun c => c.before args0 about1) = true
  refine all_split ?_ w_codes
  rw [← List.take_append_drop 24 words1, List.all_append, w_t1, ← List.take_append_drop 24 (words1.drop 24), List.all_append, w_t2, ← List.take_append_drop 24 ((words1.drop 24).drop 24), List.all_append, w_t3, w_t4]
  rfl
set_option maxRecDepth 65536 in
theorem w_case : (Jvm.Cond.and given_1 narrow_1).before args0 about1 = true := by decide +kernel
theorem w_applies : (headSpec (Jvm.Cond.code x code maxLocals ret :: tables_1) room_1).applies x e0.platform about1 = true :=
  (Spec.applies_iff w_frames).mpr ⟨w_running, w_runnable, w_alone, w_named, w_hears, w_ripe, w_room, w_tables⟩
theorem atStart : AtStart classFile x code maxLocals ret World_1 tables_1 room_1 Calls_1 rest_1 Pre_1 launch0 p0 e0 about1 theMethod args0 below0 :=
  ⟨lists_1, trivial, launch0.admits_env _ _ _, launch0.least_env, fairChoices_fair.cas, fairChoices_fair.clock, w_frames, w_args, w_heap, w_applies, trivial, trivial, w_case⟩
end start1
theorem witness_1 : WitnessClaimed_1 := ⟨start1.p0, start1.e0, start1.about1, start1.theMethod, start1.args0, start1.below0, start1.atStart⟩
end Jvm.Pilot.@@N@@
