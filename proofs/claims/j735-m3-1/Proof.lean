import JvmDerived
import JvmDerived.Pilot.@@N@@Statement
import JvmDerived.Pilot.@@N@@Code
set_option linter.unusedVariables false
set_option linter.unusedSimpArgs false
namespace Jvm.Pilot.@@N@@
open Jvm Jvm.ClassFile Sem Op Lib Jvm.Free Jvm.Stand Jvm.LawKit Jvm.RoadKit Bundle Jvm.Pilot.@@N@@.Jvm.D
/-- Java's x >>> y -/
def ushr (x y : Int32) : Int32 := (x.toUInt32 >>> (y &&& 31).toUInt32).toInt32
def ushrL (x : Int64) (y : Int32) : Int64 := (x.toUInt64 >>> (y &&& 0x3f).toInt64.toUInt64).toInt64
/-- what lcmp pushes -/
abbrev cmpL (x y : Int64) : Int32 := lcmpW x y
section Own
variable {p : Program} {l : Launch} {e : Env} {R : Room} {s : State} {m : MethodId} {args : Array Value} {below : List Frame} {meth : Method} {c : Code} {T : State} {locs : List Loc} {cells slots : Nat} {Z : State} {a0 : Array Value} {h : Heap} {Q : Option Value → Heap → List Loc → Prop} {K N pc : Nat} {Ls : Array Slot} {code : ByteArray} {rest : List Value}
/-- the run from here ends: the method returns, Q says what and over which heap -/
def Ends (p : Program) (e : Env) (below : List Frame) (s : State) (Q : Option Value → Heap → List Loc → Prop) (K N : Nat) (T : State) : Prop :=
  ∃ s₂ o, Steps p.tables e below T s₂ ∧ s₂.status = .running ∧ Ended s₂ below o ∧ ∃ v L, o = .returned v ∧ Q v s₂.heap L ∧ FrameEnd s o s₂ L K N
theorem Ends.step {T T' : State} (st : ∀ t, Steps p.tables e below T' t → Steps p.tables e below T t) (h : Ends p e below s Q K N T') : Ends p e below s Q K N T := by
  obtain ⟨s2, o, h1, h2⟩ := h
  exact ⟨s2, o, st _ h1, h2⟩
def Cx (p : Program) (c : Code) (code : ByteArray) : Prop := p.tables.exec = Jvm.exec ∧ c.code = code
/-- a method's contract -/
def Con (l : Launch) (Z : State) (y : MethodName) (bytes : ByteArray) (maxL : Nat) (ret : Option FieldType) (rm : Room) (K N : Nat) (ws : List Jvm.Cond) (as' : Array Value) (h : Heap) (Q : Option Value → Heap → List Loc → Prop) : Prop :=
  MetFree l y (head1 (Jvm.Cond.code y bytes maxL ret :: ws) rm) (fun a U => a = as' ∧ Z.Warmed39 U.vm ∧ U.heap = h) (fun _ _ _ _ _ => True) (fun _ U o U' => ∃ v L, o = .returned v ∧ Q v U'.heap L ∧ FrameEnd U o U' L K N)
theorem Con.of {y : MethodName} {bytes : ByteArray} {maxL : Nat} {ret : Option FieldType} {rm : Room} {ws : List Jvm.Cond} {as' : Array Value} (hn : plainFor y = true)
    (body : ∀ (p : Program) (e : Env) (s : State) (m : MethodId) (below : List Frame) (meth : Method) (c : Code) (T : State), Cx p c bytes → Z.Warmed39 s.vm → c.maxLocals = maxL → s.vm.findClass y.cls = some m.cls → meth.sig.returnType = ret → meth.name = y.name → meth.locks = false →
      Stand p l e rm s m as' below meth c T [] 0 0 → T.heap = h → Ends p e below s Q K N (T.setTop (entryFrame m as' maxL))) : Con l Z y bytes maxL ret rm K N ws as' h Q := by
  refine MetFree.of_bodySF hn hisR ?_
  intro p e s m args below meth c s₁ Bd hml0 hP hK
  obtain ⟨rfl, hZ, hh⟩ := hP
  exact body p e s m below meth c s₁ ⟨Bd.exec, Bd.bytes⟩ hZ hml0 (findClass_of_methodNamed Bd.named) Bd.returns (name_of_methodNamed Bd.named Bd.method).1 Bd.notSynchronized (Stand.of_body Bd) (by rw [← hh, Bd.state]; rfl)
theorem o_iadd (C : Cx p c code) (X : Stand p l e R s m args below meth c T locs cells slots) {x y : Int32} (hd : decode code pc = .ok (.iadd, 1)) (q : Nat) (hq : pc + 1 = q) (k : Ends p e below s Q K N (T.setTop (mkF m q Ls (.int (x + y) :: rest)))) : Ends p e below s Q K N (T.setTop (mkF m pc Ls (.int y :: .int x :: rest))) := by
  subst hq
  exact .step (fun _ t => XS.iadd X.here C.1 rfl (hb C.2 hd) rfl t) k
theorem o_isub (C : Cx p c code) (X : Stand p l e R s m args below meth c T locs cells slots) {x y : Int32} (hd : decode code pc = .ok (.isub, 1)) (q : Nat) (hq : pc + 1 = q) (k : Ends p e below s Q K N (T.setTop (mkF m q Ls (.int (x - y) :: rest)))) : Ends p e below s Q K N (T.setTop (mkF m pc Ls (.int y :: .int x :: rest))) := by
  subst hq
  exact .step (fun _ t => XS.isub X.here C.1 rfl (hb C.2 hd) rfl t) k
theorem o_imul (C : Cx p c code) (X : Stand p l e R s m args below meth c T locs cells slots) {x y : Int32} (hd : decode code pc = .ok (.imul, 1)) (q : Nat) (hq : pc + 1 = q) (k : Ends p e below s Q K N (T.setTop (mkF m q Ls (.int (x * y) :: rest)))) : Ends p e below s Q K N (T.setTop (mkF m pc Ls (.int y :: .int x :: rest))) := by
  subst hq
  exact .step (fun _ t => XS.imul X.here C.1 rfl (hb C.2 hd) rfl t) k
theorem o_iand (C : Cx p c code) (X : Stand p l e R s m args below meth c T locs cells slots) {x y : Int32} (hd : decode code pc = .ok (.iand, 1)) (q : Nat) (hq : pc + 1 = q) (k : Ends p e below s Q K N (T.setTop (mkF m q Ls (.int (x &&& y) :: rest)))) : Ends p e below s Q K N (T.setTop (mkF m pc Ls (.int y :: .int x :: rest))) := by
  subst hq
  exact .step (fun _ t => XS.iand X.here C.1 rfl (hb C.2 hd) rfl t) k
theorem o_ior (C : Cx p c code) (X : Stand p l e R s m args below meth c T locs cells slots) {x y : Int32} (hd : decode code pc = .ok (.ior, 1)) (q : Nat) (hq : pc + 1 = q) (k : Ends p e below s Q K N (T.setTop (mkF m q Ls (.int (x ||| y) :: rest)))) : Ends p e below s Q K N (T.setTop (mkF m pc Ls (.int y :: .int x :: rest))) := by
  subst hq
  exact .step (fun _ t => XS.ior X.here C.1 rfl (hb C.2 hd) rfl t) k
theorem o_ixor (C : Cx p c code) (X : Stand p l e R s m args below meth c T locs cells slots) {x y : Int32} (hd : decode code pc = .ok (.ixor, 1)) (q : Nat) (hq : pc + 1 = q) (k : Ends p e below s Q K N (T.setTop (mkF m q Ls (.int (x ^^^ y) :: rest)))) : Ends p e below s Q K N (T.setTop (mkF m pc Ls (.int y :: .int x :: rest))) := by
  subst hq
  exact .step (fun _ t => XS.ixor X.here C.1 rfl (hb C.2 hd) rfl t) k
theorem o_ishl (C : Cx p c code) (X : Stand p l e R s m args below meth c T locs cells slots) {x y : Int32} (hd : decode code pc = .ok (.ishl, 1)) (q : Nat) (hq : pc + 1 = q) (k : Ends p e below s Q K N (T.setTop (mkF m q Ls (.int (x <<< (y &&& 31)) :: rest)))) : Ends p e below s Q K N (T.setTop (mkF m pc Ls (.int y :: .int x :: rest))) := by
  subst hq
  exact .step (fun _ t => XS.ishl X.here C.1 rfl (hb C.2 hd) rfl t) k
theorem o_ishr (C : Cx p c code) (X : Stand p l e R s m args below meth c T locs cells slots) {x y : Int32} (hd : decode code pc = .ok (.ishr, 1)) (q : Nat) (hq : pc + 1 = q) (k : Ends p e below s Q K N (T.setTop (mkF m q Ls (.int (x >>> (y &&& 31)) :: rest)))) : Ends p e below s Q K N (T.setTop (mkF m pc Ls (.int y :: .int x :: rest))) := by
  subst hq
  exact .step (fun _ t => XS.ishr X.here C.1 rfl (hb C.2 hd) rfl t) k
theorem o_iushr (C : Cx p c code) (X : Stand p l e R s m args below meth c T locs cells slots) {x y : Int32} (hd : decode code pc = .ok (.iushr, 1)) (q : Nat) (hq : pc + 1 = q) (k : Ends p e below s Q K N (T.setTop (mkF m q Ls (.int (ushr x y) :: rest)))) : Ends p e below s Q K N (T.setTop (mkF m pc Ls (.int y :: .int x :: rest))) := by
  subst hq
  exact .step (fun _ t => XS.iushr X.here C.1 rfl (hb C.2 hd) rfl t) k
theorem o_irem (C : Cx p c code) (X : Stand p l e R s m args below meth c T locs cells slots) {x y : Int32} (hd : decode code pc = .ok (.irem, 1)) (q : Nat) (hq : pc + 1 = q) (hy : y ≠ 0) (k : Ends p e below s Q K N (T.setTop (mkF m q Ls (.int (x % y) :: rest)))) : Ends p e below s Q K N (T.setTop (mkF m pc Ls (.int y :: .int x :: rest))) := by
  subst hq
  exact .step (fun _ t => iremM X C.1 rfl (hb C.2 hd) rfl hy t) k
theorem o_idiv (C : Cx p c code) (X : Stand p l e R s m args below meth c T locs cells slots) {x y : Int32} (hd : decode code pc = .ok (.idiv, 1)) (q : Nat) (hq : pc + 1 = q) (hy : y ≠ 0) (k : Ends p e below s Q K N (T.setTop (mkF m q Ls (.int (x / y) :: rest)))) : Ends p e below s Q K N (T.setTop (mkF m pc Ls (.int y :: .int x :: rest))) := by
  subst hq
  exact .step (fun _ t => XS.idiv X.here C.1 rfl (hb C.2 hd) rfl hy t) k
theorem o_ladd (C : Cx p c code) (X : Stand p l e R s m args below meth c T locs cells slots) {x y : Int64} (hd : decode code pc = .ok (.ladd, 1)) (q : Nat) (hq : pc + 1 = q) (k : Ends p e below s Q K N (T.setTop (mkF m q Ls (.long (x + y) :: rest)))) : Ends p e below s Q K N (T.setTop (mkF m pc Ls (.long y :: .long x :: rest))) := by
  subst hq
  exact .step (fun _ t => XS.ladd X.here C.1 rfl (hb C.2 hd) rfl t) k
theorem o_lsub (C : Cx p c code) (X : Stand p l e R s m args below meth c T locs cells slots) {x y : Int64} (hd : decode code pc = .ok (.lsub, 1)) (q : Nat) (hq : pc + 1 = q) (k : Ends p e below s Q K N (T.setTop (mkF m q Ls (.long (x - y) :: rest)))) : Ends p e below s Q K N (T.setTop (mkF m pc Ls (.long y :: .long x :: rest))) := by
  subst hq
  exact .step (fun _ t => XS.lsub X.here C.1 rfl (hb C.2 hd) rfl t) k
theorem o_land (C : Cx p c code) (X : Stand p l e R s m args below meth c T locs cells slots) {x y : Int64} (hd : decode code pc = .ok (.land, 1)) (q : Nat) (hq : pc + 1 = q) (k : Ends p e below s Q K N (T.setTop (mkF m q Ls (.long (x &&& y) :: rest)))) : Ends p e below s Q K N (T.setTop (mkF m pc Ls (.long y :: .long x :: rest))) := by
  subst hq
  exact .step (fun _ t => XS.land X.here C.1 rfl (hb C.2 hd) rfl t) k
theorem o_lor (C : Cx p c code) (X : Stand p l e R s m args below meth c T locs cells slots) {x y : Int64} (hd : decode code pc = .ok (.lor, 1)) (q : Nat) (hq : pc + 1 = q) (k : Ends p e below s Q K N (T.setTop (mkF m q Ls (.long (x ||| y) :: rest)))) : Ends p e below s Q K N (T.setTop (mkF m pc Ls (.long y :: .long x :: rest))) := by
  subst hq
  exact .step (fun _ t => XS.lor X.here C.1 rfl (hb C.2 hd) rfl t) k
theorem o_lxor (C : Cx p c code) (X : Stand p l e R s m args below meth c T locs cells slots) {x y : Int64} (hd : decode code pc = .ok (.lxor, 1)) (q : Nat) (hq : pc + 1 = q) (k : Ends p e below s Q K N (T.setTop (mkF m q Ls (.long (x ^^^ y) :: rest)))) : Ends p e below s Q K N (T.setTop (mkF m pc Ls (.long y :: .long x :: rest))) := by
  subst hq
  exact .step (fun _ t => XS.lxor X.here C.1 rfl (hb C.2 hd) rfl t) k
theorem o_lushr (C : Cx p c code) (X : Stand p l e R s m args below meth c T locs cells slots) {x : Int64} {y : Int32} (hd : decode code pc = .ok (.lushr, 1)) (q : Nat) (hq : pc + 1 = q) (k : Ends p e below s Q K N (T.setTop (mkF m q Ls (.long (ushrL x y) :: rest)))) : Ends p e below s Q K N (T.setTop (mkF m pc Ls (.int y :: .long x :: rest))) := by
  subst hq
  exact .step (fun _ t => XS.lushr X.here C.1 rfl (hb C.2 hd) rfl t) k
theorem o_lcmp (C : Cx p c code) (X : Stand p l e R s m args below meth c T locs cells slots) {x y : Int64} (hd : decode code pc = .ok (.lcmp, 1)) (q : Nat) (hq : pc + 1 = q) (k : Ends p e below s Q K N (T.setTop (mkF m q Ls (.int (cmpL x y) :: rest)))) : Ends p e below s Q K N (T.setTop (mkF m pc Ls (.long y :: .long x :: rest))) := by
  subst hq
  exact .step (fun _ t => XS.lcmp X.here C.1 rfl (hb C.2 hd) rfl t) k
theorem o_i2l (C : Cx p c code) (X : Stand p l e R s m args below meth c T locs cells slots) {x : Int32} (hd : decode code pc = .ok (.i2l, 1)) (q : Nat) (hq : pc + 1 = q) (k : Ends p e below s Q K N (T.setTop (mkF m q Ls (.long x.toInt64 :: rest)))) : Ends p e below s Q K N (T.setTop (mkF m pc Ls (.int x :: rest))) := by
  subst hq
  exact .step (fun _ t => XS.i2l X.here C.1 rfl (hb C.2 hd) rfl t) k
theorem o_l2i (C : Cx p c code) (X : Stand p l e R s m args below meth c T locs cells slots) {x : Int64} (hd : decode code pc = .ok (.l2i, 1)) (q : Nat) (hq : pc + 1 = q) (k : Ends p e below s Q K N (T.setTop (mkF m q Ls (.int x.toInt32 :: rest)))) : Ends p e below s Q K N (T.setTop (mkF m pc Ls (.long x :: rest))) := by
  subst hq
  exact .step (fun _ t => XS.l2i X.here C.1 rfl (hb C.2 hd) rfl t) k
theorem o_i2b (C : Cx p c code) (X : Stand p l e R s m args below meth c T locs cells slots) {x : Int32} (hd : decode code pc = .ok (.i2b, 1)) (q : Nat) (hq : pc + 1 = q) (k : Ends p e below s Q K N (T.setTop (mkF m q Ls (.int x.toInt8.toInt32 :: rest)))) : Ends p e below s Q K N (T.setTop (mkF m pc Ls (.int x :: rest))) := by
  subst hq
  exact .step (fun _ t => XS.i2b X.here C.1 rfl (hb C.2 hd) rfl t) k
theorem o_i2c (C : Cx p c code) (X : Stand p l e R s m args below meth c T locs cells slots) {x : Int32} (hd : decode code pc = .ok (.i2c, 1)) (q : Nat) (hq : pc + 1 = q) (k : Ends p e below s Q K N (T.setTop (mkF m q Ls (.int x.toUInt32.toUInt16.toUInt32.toInt32 :: rest)))) : Ends p e below s Q K N (T.setTop (mkF m pc Ls (.int x :: rest))) := by
  subst hq
  exact .step (fun _ t => XS.i2c X.here C.1 rfl (hb C.2 hd) rfl t) k
theorem o_iconst (C : Cx p c code) (X : Stand p l e R s m args below meth c T locs cells slots) {i : Int} (hd : decode code pc = .ok (.iconst i, 1)) (q : Nat) (hq : pc + 1 = q) (v : Int32) (hv : Int32.ofInt i = v) (k : Ends p e below s Q K N (T.setTop (mkF m q Ls (.int v :: rest)))) : Ends p e below s Q K N (T.setTop (mkF m pc Ls rest)) := by
  subst hq
  exact .step (fun _ t => XS.iconst X.here C.1 rfl (hb C.2 hd) (by rw [hv]; exact t)) k
theorem o_bipush (C : Cx p c code) (X : Stand p l e R s m args below meth c T locs cells slots) {i : Int} (hd : decode code pc = .ok (.bipush i, 2)) (q : Nat) (hq : pc + 2 = q) (v : Int32) (hv : (Int8.ofInt i).toInt32 = v) (k : Ends p e below s Q K N (T.setTop (mkF m q Ls (.int v :: rest)))) : Ends p e below s Q K N (T.setTop (mkF m pc Ls rest)) := by
  subst hq
  exact .step (fun _ t => XS.bipush X.here C.1 rfl (hb C.2 hd) (by rw [hv]; exact t)) k
theorem o_sipush (C : Cx p c code) (X : Stand p l e R s m args below meth c T locs cells slots) {i : Int} (hd : decode code pc = .ok (.sipush i, 3)) (q : Nat) (hq : pc + 3 = q) (v : Int32) (hv : (Int16.ofInt i).toInt32 = v) (k : Ends p e below s Q K N (T.setTop (mkF m q Ls (.int v :: rest)))) : Ends p e below s Q K N (T.setTop (mkF m pc Ls rest)) := by
  subst hq
  exact .step (fun _ t => XS.sipush X.here C.1 rfl (hb C.2 hd) (by rw [hv]; exact t)) k
theorem o_lconst (C : Cx p c code) (X : Stand p l e R s m args below meth c T locs cells slots) {i : Fin 2} (hd : decode code pc = .ok (.lconst i, 1)) (q : Nat) (hq : pc + 1 = q) (v : Int64) (hv : Int64.ofNat i = v) (k : Ends p e below s Q K N (T.setTop (mkF m q Ls (.long v :: rest)))) : Ends p e below s Q K N (T.setTop (mkF m pc Ls rest)) := by
  subst hq
  exact .step (fun _ t => XS.lconst X.here C.1 rfl (hb C.2 hd) (by rw [hv]; exact t)) k
theorem o_aconst_null (C : Cx p c code) (X : Stand p l e R s m args below meth c T locs cells slots) (hd : decode code pc = .ok (.aconst_null, 1)) (q : Nat) (hq : pc + 1 = q) (k : Ends p e below s Q K N (T.setTop (mkF m q Ls (.null :: rest)))) : Ends p e below s Q K N (T.setTop (mkF m pc Ls rest)) := by
  subst hq
  exact .step (fun _ t => XS.aconstNull X.here C.1 rfl (hb C.2 hd) t) k
theorem o_dup (C : Cx p c code) (X : Stand p l e R s m args below meth c T locs cells slots) {x : Value} (hd : decode code pc = .ok (.dup, 1)) (q : Nat) (hq : pc + 1 = q) (hc : x.category = 1) (k : Ends p e below s Q K N (T.setTop (mkF m q Ls (x :: x :: rest)))) : Ends p e below s Q K N (T.setTop (mkF m pc Ls (x :: rest))) := by
  subst hq
  exact .step (fun _ t => XS.dup X.here C.1 rfl (hb C.2 hd) rfl hc t) k
theorem o_dup_x1 (C : Cx p c code) (X : Stand p l e R s m args below meth c T locs cells slots) {x y : Value} (hd : decode code pc = .ok (.dup_x1, 1)) (q : Nat) (hq : pc + 1 = q) (hc : x.category = 1) (hc' : y.category = 1) (k : Ends p e below s Q K N (T.setTop (mkF m q Ls (x :: y :: x :: rest)))) : Ends p e below s Q K N (T.setTop (mkF m pc Ls (x :: y :: rest))) := by
  subst hq
  exact .step (fun _ t => XS.dupX1 X.here C.1 rfl (hb C.2 hd) rfl hc hc' t) k
theorem o_pop (C : Cx p c code) (X : Stand p l e R s m args below meth c T locs cells slots) {x : Value} (hd : decode code pc = .ok (.pop, 1)) (q : Nat) (hq : pc + 1 = q) (hc : x.category = 1) (k : Ends p e below s Q K N (T.setTop (mkF m q Ls rest))) : Ends p e below s Q K N (T.setTop (mkF m pc Ls (x :: rest))) := by
  subst hq
  exact .step (fun _ t => XS.pop X.here C.1 rfl (hb C.2 hd) rfl hc t) k
theorem o_iloadN (C : Cx p c code) (X : Stand p l e R s m args below meth c T locs cells slots) {i : Fin 4} {v : Int32} (hd : decode code pc = .ok (.iload_n i, 1)) (q : Nat) (hq : pc + 1 = q) (hl : Ls[i.val]? = some (.val (.int v))) (k : Ends p e below s Q K N (T.setTop (mkF m q Ls (.int v :: rest)))) : Ends p e below s Q K N (T.setTop (mkF m pc Ls rest)) := by
  subst hq
  exact .step (fun _ t => XS.iloadN X.here C.1 rfl (hb C.2 hd) hl t) k
theorem o_iload (C : Cx p c code) (X : Stand p l e R s m args below meth c T locs cells slots) {i : Nat} {v : Int32} (hd : decode code pc = .ok (.iload i, 2)) (q : Nat) (hq : pc + 2 = q) (hl : Ls[i]? = some (.val (.int v))) (k : Ends p e below s Q K N (T.setTop (mkF m q Ls (.int v :: rest)))) : Ends p e below s Q K N (T.setTop (mkF m pc Ls rest)) := by
  subst hq
  exact .step (fun _ t => XS.iload X.here C.1 rfl (hb C.2 hd) hl t) k
theorem o_lloadN (C : Cx p c code) (X : Stand p l e R s m args below meth c T locs cells slots) {i : Fin 4} {v : Int64} (hd : decode code pc = .ok (.lload_n i, 1)) (q : Nat) (hq : pc + 1 = q) (hl : Ls[i.val]? = some (.val (.long v))) (k : Ends p e below s Q K N (T.setTop (mkF m q Ls (.long v :: rest)))) : Ends p e below s Q K N (T.setTop (mkF m pc Ls rest)) := by
  subst hq
  exact .step (fun _ t => XS.lloadN X.here C.1 rfl (hb C.2 hd) hl t) k
theorem o_lload (C : Cx p c code) (X : Stand p l e R s m args below meth c T locs cells slots) {i : Nat} {v : Int64} (hd : decode code pc = .ok (.lload i, 2)) (q : Nat) (hq : pc + 2 = q) (hl : Ls[i]? = some (.val (.long v))) (k : Ends p e below s Q K N (T.setTop (mkF m q Ls (.long v :: rest)))) : Ends p e below s Q K N (T.setTop (mkF m pc Ls rest)) := by
  subst hq
  exact .step (fun _ t => XS.lload X.here C.1 rfl (hb C.2 hd) hl t) k
theorem o_aloadN (C : Cx p c code) (X : Stand p l e R s m args below meth c T locs cells slots) {i : Fin 4} {v : Value} (hd : decode code pc = .ok (.aload_n i, 1)) (q : Nat) (hq : pc + 1 = q) (hl : Ls[i.val]? = some (.val v)) (hv : v.isRef = true) (k : Ends p e below s Q K N (T.setTop (mkF m q Ls (v :: rest)))) : Ends p e below s Q K N (T.setTop (mkF m pc Ls rest)) := by
  subst hq
  exact .step (fun _ t => XS.aloadN X.here C.1 rfl (hb C.2 hd) hl hv t) k
theorem o_aload (C : Cx p c code) (X : Stand p l e R s m args below meth c T locs cells slots) {i : Nat} {v : Value} (hd : decode code pc = .ok (.aload i, 2)) (q : Nat) (hq : pc + 2 = q) (hl : Ls[i]? = some (.val v)) (hv : v.isRef = true) (k : Ends p e below s Q K N (T.setTop (mkF m q Ls (v :: rest)))) : Ends p e below s Q K N (T.setTop (mkF m pc Ls rest)) := by
  subst hq
  exact .step (fun _ t => XS.aload X.here C.1 rfl (hb C.2 hd) hl hv t) k
theorem o_istoreN (C : Cx p c code) (X : Stand p l e R s m args below meth c T locs cells slots) {i : Fin 4} {x : Int32} (hd : decode code pc = .ok (.istore_n i, 1)) (q : Nat) (hq : pc + 1 = q) (l' : Array Slot) (hl : storeLocals Ls i.val (.int x) = some l') (k : Ends p e below s Q K N (T.setTop (mkF m q l' rest))) : Ends p e below s Q K N (T.setTop (mkF m pc Ls (.int x :: rest))) := by
  subst hq
  exact .step (fun _ t => XS.istoreN X.here C.1 rfl (hb C.2 hd) rfl hl t) k
theorem o_istore (C : Cx p c code) (X : Stand p l e R s m args below meth c T locs cells slots) {i : Nat} {x : Int32} (hd : decode code pc = .ok (.istore i, 2)) (q : Nat) (hq : pc + 2 = q) (l' : Array Slot) (hl : storeLocals Ls i (.int x) = some l') (k : Ends p e below s Q K N (T.setTop (mkF m q l' rest))) : Ends p e below s Q K N (T.setTop (mkF m pc Ls (.int x :: rest))) := by
  subst hq
  exact .step (fun _ t => XS.istore X.here C.1 rfl (hb C.2 hd) rfl hl t) k
theorem o_lstoreN (C : Cx p c code) (X : Stand p l e R s m args below meth c T locs cells slots) {i : Fin 4} {x : Int64} (hd : decode code pc = .ok (.lstore_n i, 1)) (q : Nat) (hq : pc + 1 = q) (l' : Array Slot) (hl : storeLocals Ls i.val (.long x) = some l') (k : Ends p e below s Q K N (T.setTop (mkF m q l' rest))) : Ends p e below s Q K N (T.setTop (mkF m pc Ls (.long x :: rest))) := by
  subst hq
  exact .step (fun _ t => XS.lstoreN X.here C.1 rfl (hb C.2 hd) rfl hl t) k
theorem o_lstore (C : Cx p c code) (X : Stand p l e R s m args below meth c T locs cells slots) {i : Nat} {x : Int64} (hd : decode code pc = .ok (.lstore i, 2)) (q : Nat) (hq : pc + 2 = q) (l' : Array Slot) (hl : storeLocals Ls i (.long x) = some l') (k : Ends p e below s Q K N (T.setTop (mkF m q l' rest))) : Ends p e below s Q K N (T.setTop (mkF m pc Ls (.long x :: rest))) := by
  subst hq
  exact .step (fun _ t => XS.lstore X.here C.1 rfl (hb C.2 hd) rfl hl t) k
theorem o_astoreN (C : Cx p c code) (X : Stand p l e R s m args below meth c T locs cells slots) {i : Fin 4} {x : Value} (hd : decode code pc = .ok (.astore_n i, 1)) (q : Nat) (hq : pc + 1 = q) (hv : x.isRef = true) (l' : Array Slot) (hl : storeLocals Ls i.val x = some l') (k : Ends p e below s Q K N (T.setTop (mkF m q l' rest))) : Ends p e below s Q K N (T.setTop (mkF m pc Ls (x :: rest))) := by
  subst hq
  exact .step (fun _ t => XS.astoreN X.here C.1 rfl (hb C.2 hd) rfl hv hl t) k
theorem o_astore (C : Cx p c code) (X : Stand p l e R s m args below meth c T locs cells slots) {i : Nat} {x : Value} (hd : decode code pc = .ok (.astore i, 2)) (q : Nat) (hq : pc + 2 = q) (hv : x.isRef = true) (l' : Array Slot) (hl : storeLocals Ls i x = some l') (k : Ends p e below s Q K N (T.setTop (mkF m q l' rest))) : Ends p e below s Q K N (T.setTop (mkF m pc Ls (x :: rest))) := by
  subst hq
  exact .step (fun _ t => XS.astore X.here C.1 rfl (hb C.2 hd) rfl hv hl t) k
theorem o_iinc (C : Cx p c code) (X : Stand p l e R s m args below meth c T locs cells slots) {i : Nat} {cst : Int} {x : Int32} (v : Int32) (hd : decode code pc = .ok (.iinc i cst, 3)) (q : Nat) (hq : pc + 3 = q) (l' : Array Slot) (hl : Ls[i]? = some (.val (.int x))) (hv : x + Int32.ofInt cst = v) (hl' : storeLocals Ls i (.int v) = some l') (k : Ends p e below s Q K N (T.setTop (mkF m q l' rest))) : Ends p e below s Q K N (T.setTop (mkF m pc Ls rest)) := by
  subst hq hv
  exact .step (fun _ t => XS.iinc X.here C.1 rfl (hb C.2 hd) hl hl' t) k
theorem o_goto (C : Cx p c code) (X : Stand p l e R s m args below meth c T locs cells slots) {o : Int} (hd : decode code pc = .ok (.goto o, 3)) (q : Nat) (ho : 0 ≤ (pc : Int) + o) (hq : ((pc : Int) + o).toNat = q) (k : Ends p e below s Q K N (T.setTop (mkF m q Ls rest))) : Ends p e below s Q K N (T.setTop (mkF m pc Ls rest)) := by
  exact .step (fun _ t => XS.goto X.here C.1 rfl (pc0 := pc) rfl (hb C.2 hd) ho hq t) k
theorem o_ifY (C : Cx p c code) (X : Stand p l e R s m args below meth c T locs cells slots) {cd : ClassFile.Cond} {o : Int} {x : Int32} (hd : decode code pc = .ok (.ifCond cd o, 3)) (q : Nat) (ho : 0 ≤ (pc : Int) + o) (hq : ((pc : Int) + o).toNat = q) (hc : ifCond.holds cd x = true) (k : Ends p e below s Q K N (T.setTop (mkF m q Ls rest))) : Ends p e below s Q K N (T.setTop (mkF m pc Ls (.int x :: rest))) := by
  exact .step (fun _ t => XS.ifYes X.here C.1 rfl (pc0 := pc) rfl (hb C.2 hd) rfl hc ho hq t) k
theorem o_ifN (C : Cx p c code) (X : Stand p l e R s m args below meth c T locs cells slots) {cd : ClassFile.Cond} {o : Int} {x : Int32} (hd : decode code pc = .ok (.ifCond cd o, 3)) (q : Nat) (hq : pc + 3 = q) (hc : ifCond.holds cd x = false) (k : Ends p e below s Q K N (T.setTop (mkF m q Ls rest))) : Ends p e below s Q K N (T.setTop (mkF m pc Ls (.int x :: rest))) := by
  subst hq
  exact .step (fun _ t => XS.ifNo X.here C.1 rfl (hb C.2 hd) rfl hc t) k
theorem o_icmpY (C : Cx p c code) (X : Stand p l e R s m args below meth c T locs cells slots) {cd : ClassFile.Cond} {o : Int} {x y : Int32} (hd : decode code pc = .ok (.if_icmp cd o, 3)) (q : Nat) (ho : 0 ≤ (pc : Int) + o) (hq : ((pc : Int) + o).toNat = q) (hc : if_icmp.holds cd x y = true) (k : Ends p e below s Q K N (T.setTop (mkF m q Ls rest))) : Ends p e below s Q K N (T.setTop (mkF m pc Ls (.int y :: .int x :: rest))) := by
  exact .step (fun _ t => XS.icmpYes X.here C.1 rfl (pc0 := pc) rfl (hb C.2 hd) rfl hc ho hq t) k
theorem o_icmpN (C : Cx p c code) (X : Stand p l e R s m args below meth c T locs cells slots) {cd : ClassFile.Cond} {o : Int} {x y : Int32} (hd : decode code pc = .ok (.if_icmp cd o, 3)) (q : Nat) (hq : pc + 3 = q) (hc : if_icmp.holds cd x y = false) (k : Ends p e below s Q K N (T.setTop (mkF m q Ls rest))) : Ends p e below s Q K N (T.setTop (mkF m pc Ls (.int y :: .int x :: rest))) := by
  subst hq
  exact .step (fun _ t => XS.icmpNo X.here C.1 rfl (hb C.2 hd) rfl hc t) k
theorem o_tlt {x y : Int64} (h : x < y) : ifCond.holds .lt (cmpL x y) = true ∧ ifCond.holds .ge (cmpL x y) = false := by
  have := (lw_lt x y).mpr h
  simp only [if0]; exact ⟨(tlt this).1, (tlt this).2.1⟩
theorem o_flt {x y : Int64} (h : ¬ x < y) : ifCond.holds .lt (cmpL x y) = false ∧ ifCond.holds .ge (cmpL x y) = true := by
  have := fun q => h ((lw_lt x y).mp q)
  simp only [if0]; exact ⟨(flt this).1, (flt this).2.1⟩
theorem o_tgt {x y : Int64} (h : y < x) : ifCond.holds .gt (cmpL x y) = true ∧ ifCond.holds .le (cmpL x y) = false := by
  have := (lw_gt x y).mpr h
  simp only [if0]; exact ⟨(tlt this).2.2.1, (tlt this).2.2.2⟩
theorem o_fgt {x y : Int64} (h : ¬ y < x) : ifCond.holds .gt (cmpL x y) = false ∧ ifCond.holds .le (cmpL x y) = true := by
  have := fun q => h ((lw_gt x y).mp q)
  simp only [if0]; exact ⟨(flt this).2.2.1, (flt this).2.2.2⟩
theorem o_teq {x y : Int64} (h : x = y) : ifCond.holds .eq (cmpL x y) = true ∧ ifCond.holds .ne (cmpL x y) = false := by
  have := (lw_eq x y).mpr h
  simp only [if0]; exact ⟨(teq this).1, (teq this).2⟩
theorem o_feq {x y : Int64} (h : ¬ x = y) : ifCond.holds .eq (cmpL x y) = false ∧ ifCond.holds .ne (cmpL x y) = true := by
  have := fun q => h ((lw_eq x y).mp q)
  simp only [if0]; exact ⟨(feq this).1, (feq this).2⟩
theorem o_ldcI (C : Cx p c code) (X : Stand p l e R s m args below meth c T locs cells slots) (hZ : Z.Warmed39 s.vm) {own : String} {index : Nat} {v : Int32} (hown : s.vm.findClass own = some m.cls) (w : (Jvm.Cond.constant own index v).before a0 Z = true) (hd : decode code pc = .ok (.ldc index, 2)) (q : Nat) (hq : pc + 2 = q) (k : Ends p e below s Q K N (T.setTop (mkF m q Ls (.int v :: rest)))) : Ends p e below s Q K N (T.setTop (mkF m pc Ls rest)) := by
  subst hq
  exact .step (fun _ t => X.ldcI C.1 hown (mvT hZ w) (g := mkF m pc Ls rest) rfl (hb C.2 hd) t) k
theorem o_ldc2J (C : Cx p c code) (X : Stand p l e R s m args below meth c T locs cells slots) (hZ : Z.Warmed39 s.vm) {own : String} {index : Nat} {v : Int64} (hown : s.vm.findClass own = some m.cls) (w : (Jvm.Cond.constantLong own index v).before a0 Z = true) (hd : decode code pc = .ok (.ldc2_w index, 3)) (q : Nat) (hq : pc + 3 = q) (k : Ends p e below s Q K N (T.setTop (mkF m q Ls (.long v :: rest)))) : Ends p e below s Q K N (T.setTop (mkF m pc Ls rest)) := by
  subst hq
  exact .step (fun _ t => X.ldc2J C.1 hown (mvT hZ w) (g := mkF m pc Ls rest) rfl (hb C.2 hd) t) k
theorem o_retI (C : Cx p c code) (X : Stand p l e R s m args below meth c T locs cells slots) {z : Int32} (hret : meth.sig.returnType = some .int) (hlk : meth.locks = false) (hd : decode code pc = .ok (.ireturn, 1)) (hQ : Q (some (.int z)) T.heap locs) (hK : cells ≤ K) (hN : slots ≤ N) : Ends p e below s Q K N (T.setTop (mkF m pc Ls (.int z :: rest))) := by
  obtain ⟨fs, hr, hrun, hended, hW, hsame⟩ := X.leave (v := (some (.int z))) (fun h => by rw [hret] at h; cases h) hlk
  exact ⟨_, _, retOut X C.1 hret rfl (Or.inl ⟨rfl, Or.inl rfl, z, rfl⟩) (hb C.2 hd) hr, hrun, hended, _, _, rfl, hQ, ⟨_, rfl⟩, hW, hsame.mono hK hN⟩
theorem o_retN (C : Cx p c code) (X : Stand p l e R s m args below meth c T locs cells slots) {z : Int32} {t : FieldType} (hret : meth.sig.returnType = some t) (ht : t = .boolean ∨ t = .byte ∨ t = .char ∨ t = .short) (hlk : meth.locks = false) (hd : decode code pc = .ok (.ireturn, 1)) (hQ : Q (some (.int (nar t z))) T.heap locs) (hK : cells ≤ K) (hN : slots ≤ N) : Ends p e below s Q K N (T.setTop (mkF m pc Ls (.int z :: rest))) := by
  obtain ⟨fs, hr, hrun, hended, hW, hsame⟩ := X.leave (v := (some (.int (nar t z)))) (fun h => by rw [hret] at h; cases h) hlk
  exact ⟨_, _, retN X C.1 hret ht (hb C.2 hd) hr, hrun, hended, _, _, rfl, hQ, ⟨_, rfl⟩, hW, hsame.mono hK hN⟩
theorem o_retJ (C : Cx p c code) (X : Stand p l e R s m args below meth c T locs cells slots) {z : Int64} (hret : meth.sig.returnType = some .long) (hlk : meth.locks = false) (hd : decode code pc = .ok (.lreturn, 1)) (hQ : Q (some (.long z)) T.heap locs) (hK : cells ≤ K) (hN : slots ≤ N) : Ends p e below s Q K N (T.setTop (mkF m pc Ls (.long z :: rest))) := by
  obtain ⟨fs, hr, hrun, hended, hW, hsame⟩ := X.leave (v := (some (.long z))) (fun h => by rw [hret] at h; cases h) hlk
  exact ⟨_, _, retOut X C.1 hret rfl (Or.inr (Or.inl ⟨rfl, rfl, z, rfl⟩)) (hb C.2 hd) hr, hrun, hended, _, _, rfl, hQ, ⟨_, rfl⟩, hW, hsame.mono hK hN⟩
theorem o_retA (C : Cx p c code) (X : Stand p l e R s m args below meth c T locs cells slots) {z : Addr} {t : FieldType} (hret : meth.sig.returnType = some t) (ht : t.isReference = true) (hlk : meth.locks = false) (hd : decode code pc = .ok (.areturn, 1)) (hQ : Q (some (.ref z)) T.heap locs) (hK : cells ≤ K) (hN : slots ≤ N) : Ends p e below s Q K N (T.setTop (mkF m pc Ls (.ref z :: []))) := by
  obtain ⟨fs, hr, hrun, hended, hW, hsame⟩ := X.leave (v := (some (.ref z))) (fun h => by rw [hret] at h; cases h) hlk
  exact ⟨_, _, X.areturnOut C.1 rfl hret ht (hb C.2 hd) hr, hrun, hended, _, _, rfl, hQ, ⟨_, rfl⟩, hW, hsame.mono hK hN⟩
theorem o_ret (C : Cx p c code) (X : Stand p l e R s m args below meth c T locs cells slots) (hret : meth.sig.returnType = none) (hlk : meth.locks = false) (hd : decode code pc = .ok (.return_, 1)) (hQ : Q none T.heap locs) (hK : cells ≤ K) (hN : slots ≤ N) : Ends p e below s Q K N (T.setTop (mkF m pc Ls [])) := by
  obtain ⟨fs, hr, hrun, hended, hW, hsame⟩ := X.leave (v := none) (fun _ => rfl) hlk
  exact ⟨_, _, X.returnOut C.1 hret (hb C.2 hd) hr, hrun, hended, _, _, rfl, hQ, ⟨_, rfl⟩, hW, hsame.mono hK hN⟩
theorem o_callS (C : Cx p c code) (X : Stand p l e R s m args below meth c T locs cells slots) (hZ : Z.Warmed39 s.vm) (hml : c.maxLocals = Ls.size) {own : String} {index : Nat} {y : MethodName} {bytes : ByteArray} {maxL : Nat} {ret : Option FieldType} {rm : Room} {Qc : Option Value → Heap → List Loc → Prop} (hown : s.vm.findClass own = some m.cls)
    (w1 : (Jvm.Cond.methodLink own index y).before a0 Z = true) (w2 : (Jvm.Cond.static y).before a0 Z = true) (w3 : (Jvm.Cond.initialized y.cls).before a0 Z = true) (w4 : (Jvm.Cond.code y bytes maxL ret).before a0 Z = true) (hy : y.cls ≠ "java/lang/invoke/MethodHandle" ∧ y.cls ≠ "java/lang/invoke/VarHandle")
    {asL st : List Value} (hM : Con l Z y bytes maxL ret rm rm.cells rm.slots [] asL.toArray h Qc) (eT : T.heap = h) {ps : List FieldType} {rt : Option FieldType} (pd : parseMethodDescriptor y.desc = some ⟨ps, rt⟩) (hlen : asL.length = ps.length) (hst : st = asL.reverse ++ rest) (W : Nat) (hW : (rest.map fun v => v.category).sum ≤ W) (hf : rm.frames + 1 ≤ R.frames) (hl : W + (maxL + 11) + rm.locals ≤ R.locals) (hcl : cells + rm.cells ≤ R.cells) (hsl : slots + rm.slots ≤ R.slots)
    (hd : decode code pc = .ok (.invokestatic index, 3)) (q : Nat) (hq : pc + 3 = q) (k : ∀ (T' : State) (h' : Heap) (v : Option Value) (L : List Loc), Stand p l e R s m args below meth c T' (locs ++ L) (cells + rm.cells) (slots + rm.slots) → T'.heap = h' → Qc v h' L → Ends p e below s Q K N (T'.setTop (mkF m q Ls (v.toList ++ rest)))) : Ends p e below s Q K N (T.setTop (mkF m pc Ls st)) := by
  subst hq hst
  obtain ⟨v, _, ⟨T', L', k', n'⟩, -, X', ⟨Lc, hQ, rfl, rfl, rfl⟩, st⟩ := Jvm.LawKit.callS X C.1 (y := y) hown (mvT hZ w1) (mvT hZ w2) (mvT hZ w3) (mvT hZ w4) hy (backOf (W := W) hM hZ w4 w3 hf hl) (g := mkF m pc Ls (asL.reverse ++ rest)) rfl hml.symm (argsL := asL) (rest := rest) (lenOf pd hlen) rfl (by show 2 * 0 + _ ≤ _; omega) (hb C.2 hd) (fun _ _ => ⟨rfl, eT, hcl, hsl⟩)
  exact .step st (k T' _ v Lc X' rfl hQ)
theorem o_callI (C : Cx p c code) (X : Stand p l e R s m args below meth c T locs cells slots) (hZ : Z.Warmed39 s.vm) (hml : c.maxLocals = Ls.size) {own : String} {index : Nat} {y : MethodName} {bytes : ByteArray} {maxL : Nat} {rm : Room} {Qc : Option Value → Heap → List Loc → Prop} (hown : s.vm.findClass own = some m.cls) (hy1 : y.name = "<init>")
    (w1 : (Jvm.Cond.methodLink own index y).before a0 Z = true) (w2 : (Jvm.Cond.instanceMethod y).before a0 Z = true) (w3 : (Jvm.Cond.initialized y.cls).before a0 Z = true) (w4 : (Jvm.Cond.code y bytes maxL none).before a0 Z = true) (hy : y.cls ≠ "java/lang/invoke/MethodHandle" ∧ y.cls ≠ "java/lang/invoke/VarHandle")
    {asL st : List Value} {a : Addr} (hM : Con l Z y bytes maxL none rm rm.cells rm.slots [] (.ref a :: asL).toArray h Qc) (eT : T.heap = h) {ps : List FieldType} {rt : Option FieldType} (pd : parseMethodDescriptor y.desc = some ⟨ps, rt⟩) (hlen : asL.length = ps.length) (hst : st = asL.reverse ++ .ref a :: rest) (W : Nat) (hW : (rest.map fun v => v.category).sum ≤ W) (hf : rm.frames + 1 ≤ R.frames) (hl : W + (maxL + 11) + rm.locals ≤ R.locals) (hcl : cells + rm.cells ≤ R.cells) (hsl : slots + rm.slots ≤ R.slots)
    (hd : decode code pc = .ok (.invokespecial index, 3)) (q : Nat) (hq : pc + 3 = q) (k : ∀ (T' : State) (h' : Heap) (v : Option Value) (L : List Loc), Stand p l e R s m args below meth c T' (locs ++ L) (cells + rm.cells) (slots + rm.slots) → T'.heap = h' → Qc v h' L → Ends p e below s Q K N (T'.setTop (mkF m q Ls (v.toList ++ rest)))) : Ends p e below s Q K N (T.setTop (mkF m pc Ls st)) := by
  subst hq hst
  obtain ⟨v, _, ⟨T', L', k', n'⟩, -, X', ⟨Lc, hQ, rfl, rfl, rfl⟩, st⟩ := X.specialBack C.1 (y := y) hy1 hown (mvT hZ w1) (mvT hZ w2) (mvT hZ w4) hy (backOf (W := W) hM hZ w4 w3 hf hl) (g := mkF m pc Ls (asL.reverse ++ .ref a :: rest)) rfl hml.symm (Steps.refl _) (a := a) (argsL := asL) (rest := rest) (lenOf pd hlen) rfl (by show 2 * 0 + _ ≤ _; omega) (hb C.2 hd) (fun _ _ => ⟨rfl, eT, hcl, hsl⟩)
  exact .step (fun _ t => st.trans t) (k T' _ v Lc X' rfl hQ)
theorem o_callV (C : Cx p c code) (X : Stand p l e R s m args below meth c T locs cells slots) (hZ : Z.Warmed39 s.vm) (hml : c.maxLocals = Ls.size) {own : String} {index : Nat} {y : MethodName} {bytes : ByteArray} {maxL : Nat} {ret : Option FieldType} {rm : Room} {Qc : Option Value → Heap → List Loc → Prop} (hown : s.vm.findClass own = some m.cls)
    (w1 : (Jvm.Cond.methodLink own index y).before a0 Z = true) (w2 : (Jvm.Cond.declares y).before a0 Z = true) (w5 : (Jvm.Cond.selects y.cls y y).before a0 Z = true) (w6 : (Jvm.Cond.instanceMethod y).before a0 Z = true) (w3 : (Jvm.Cond.initialized y.cls).before a0 Z = true) (w4 : (Jvm.Cond.code y bytes maxL ret).before a0 Z = true) (hy : y.cls ≠ "java/lang/invoke/MethodHandle" ∧ y.cls ≠ "java/lang/invoke/VarHandle")
    {asL st : List Value} {a : Addr} (hM : Con l Z y bytes maxL ret rm rm.cells rm.slots [] (.ref a :: asL).toArray h Qc) (eT : T.heap = h) (E : Exa Z h a y.cls) {ps : List FieldType} {rt : Option FieldType} (pd : parseMethodDescriptor y.desc = some ⟨ps, rt⟩) (hlen : asL.length = ps.length) (hst : st = asL.reverse ++ .ref a :: rest) (W : Nat) (hW : (rest.map fun v => v.category).sum ≤ W) (hf : rm.frames + 1 ≤ R.frames) (hl : W + (maxL + 11) + rm.locals ≤ R.locals) (hcl : cells + rm.cells ≤ R.cells) (hsl : slots + rm.slots ≤ R.slots)
    (hd : decode code pc = .ok (.invokevirtual index, 3)) (q : Nat) (hq : pc + 3 = q) (k : ∀ (T' : State) (h' : Heap) (v : Option Value) (L : List Loc), Stand p l e R s m args below meth c T' (locs ++ L) (cells + rm.cells) (slots + rm.slots) → T'.heap = h' → Qc v h' L → Ends p e below s Q K N (T'.setTop (mkF m q Ls (v.toList ++ rest)))) : Ends p e below s Q K N (T.setTop (mkF m pc Ls st)) := by
  subst hq hst
  obtain ⟨cq, kq, qa, qb, qc⟩ := isOf hZ eT E
  obtain ⟨v, _, ⟨T', L', k', n'⟩, -, X', ⟨Lc, hQ, rfl, rfl, rfl⟩, st⟩ := X.virtualBack C.1 (y := y) (z := y) hown (mvT hZ w1) (mvT hZ w2) (notFace_of_selects (args := #[]) (mvT hZ w5)) (mvT hZ w5) (mvT hZ w6) hy (backOf (W := W) hM hZ w4 w3 hf hl) qa qc (g := mkF m pc Ls (asL.reverse ++ .ref a :: rest)) rfl hml.symm (Steps.refl _) (argsL := asL) (rest := rest) (lenOf pd hlen) rfl (by show 2 * 0 + _ ≤ _; omega) (hb C.2 hd) (fun _ _ => ⟨rfl, eT, hcl, hsl⟩)
  exact .step (fun _ t => st.trans t) (k T' _ v Lc X' rfl hQ)
theorem Ends.via {T0 : State} (F : JFrame) (k1 : Ends p e below s Q K N (T.setTop F) → Ends p e below s Q K N T0) (k2 : Ends p e below s Q K N (T.setTop F)) : Ends p e below s Q K N T0 := k1 k2
/-- what a callee that writes and makes nothing says: its value, the heap as it was -/
def PQ (v0 : Value) (h : Heap) : Option Value → Heap → List Loc → Prop := fun v h' L => v = some v0 ∧ L = [] ∧ h' = h
theorem o_callP (C : Cx p c code) (X : Stand p l e R s m args below meth c T locs cells slots) (hZ : Z.Warmed39 s.vm) (hml : c.maxLocals = Ls.size) {own : String} {index : Nat} {y : MethodName} {bytes : ByteArray} {maxL : Nat} {ret : Option FieldType} {rf rl : Nat} {v0 : Value} (hown : s.vm.findClass own = some m.cls)
    (w1 : (Jvm.Cond.methodLink own index y).before a0 Z = true) (w2 : (Jvm.Cond.static y).before a0 Z = true) (w3 : (Jvm.Cond.initialized y.cls).before a0 Z = true) (w4 : (Jvm.Cond.code y bytes maxL ret).before a0 Z = true) (hy : y.cls ≠ "java/lang/invoke/MethodHandle" ∧ y.cls ≠ "java/lang/invoke/VarHandle")
    {asL st : List Value} (hM : Con l Z y bytes maxL ret { frames := rf, cells := 0, slots := 0, locals := rl } 0 0 [] asL.toArray h (PQ v0 h)) (eT : T.heap = h) {ps : List FieldType} {rt : Option FieldType} (pd : parseMethodDescriptor y.desc = some ⟨ps, rt⟩) (hlen : asL.length = ps.length) (hst : st = asL.reverse ++ rest) (W : Nat) (hW : (rest.map fun v => v.category).sum ≤ W) (hf : rf + 1 ≤ R.frames) (hl : W + (maxL + 11) + rl ≤ R.locals) (hcl : cells ≤ R.cells) (hsl : slots ≤ R.slots)
    (hd : decode code pc = .ok (.invokestatic index, 3)) (q : Nat) (hq : pc + 3 = q) (k : ∀ (T' : State), Stand p l e R s m args below meth c T' locs cells slots → T'.heap = h → Ends p e below s Q K N (T'.setTop (mkF m q Ls (v0 :: rest)))) : Ends p e below s Q K N (T.setTop (mkF m pc Ls st)) := by
  refine o_callS C X hZ hml hown w1 w2 w3 w4 hy (rm := { frames := rf, cells := 0, slots := 0, locals := rl }) hM eT pd hlen hst W hW hf hl hcl hsl hd q hq ?_
  intro T' h' v L X' e' hq
  obtain ⟨rfl, rfl, hh⟩ := hq
  rw [List.append_nil] at X'
  exact k T' X' (e'.trans hh)
theorem o_callVP (C : Cx p c code) (X : Stand p l e R s m args below meth c T locs cells slots) (hZ : Z.Warmed39 s.vm) (hml : c.maxLocals = Ls.size) {own : String} {index : Nat} {y : MethodName} {bytes : ByteArray} {maxL : Nat} {ret : Option FieldType} {rf rl : Nat} {v0 : Value} (hown : s.vm.findClass own = some m.cls)
    (w1 : (Jvm.Cond.methodLink own index y).before a0 Z = true) (w2 : (Jvm.Cond.declares y).before a0 Z = true) (w5 : (Jvm.Cond.selects y.cls y y).before a0 Z = true) (w6 : (Jvm.Cond.instanceMethod y).before a0 Z = true) (w3 : (Jvm.Cond.initialized y.cls).before a0 Z = true) (w4 : (Jvm.Cond.code y bytes maxL ret).before a0 Z = true) (hy : y.cls ≠ "java/lang/invoke/MethodHandle" ∧ y.cls ≠ "java/lang/invoke/VarHandle")
    {asL st : List Value} {a : Addr} (hM : Con l Z y bytes maxL ret { frames := rf, cells := 0, slots := 0, locals := rl } 0 0 [] (.ref a :: asL).toArray h (PQ v0 h)) (eT : T.heap = h) (E : Exa Z h a y.cls) {ps : List FieldType} {rt : Option FieldType} (pd : parseMethodDescriptor y.desc = some ⟨ps, rt⟩) (hlen : asL.length = ps.length) (hst : st = asL.reverse ++ .ref a :: rest) (W : Nat) (hW : (rest.map fun v => v.category).sum ≤ W) (hf : rf + 1 ≤ R.frames) (hl : W + (maxL + 11) + rl ≤ R.locals) (hcl : cells ≤ R.cells) (hsl : slots ≤ R.slots)
    (hd : decode code pc = .ok (.invokevirtual index, 3)) (q : Nat) (hq : pc + 3 = q) (k : ∀ (T' : State), Stand p l e R s m args below meth c T' locs cells slots → T'.heap = h → Ends p e below s Q K N (T'.setTop (mkF m q Ls (v0 :: rest)))) : Ends p e below s Q K N (T.setTop (mkF m pc Ls st)) := by
  refine o_callV C X hZ hml hown w1 w2 w5 w6 w3 w4 hy (rm := { frames := rf, cells := 0, slots := 0, locals := rl }) hM eT E pd hlen hst W hW hf hl hcl hsl hd q hq ?_
  intro T' h' v L X' e' hq
  obtain ⟨rfl, rfl, hh⟩ := hq
  rw [List.append_nil] at X'
  exact k T' X' (e'.trans hh)
theorem o_new (C : Cx p c code) (X : Stand p l e R s m args below meth c T locs cells slots) (hZ : Z.Warmed39 s.vm) {own Cn : String} {index n : Nat} (hown : s.vm.findClass own = some m.cls) (w : (Jvm.Cond.classLink own index Cn).before a0 Z = true) (wi : (Jvm.Cond.instantiable Cn n).before a0 Z = true) (wz : (Jvm.Cond.initialized Cn).before a0 Z = true) (eT : T.heap = h) (hd : decode code pc = .ok (.new index, 3)) (hc : cells + 1 ≤ R.cells) (hl : slots + n ≤ R.slots) (q : Nat) (hq : pc + 3 = q)
    (k : ∀ (T' : State) (h' : Heap) (a : Addr), a = h.size → Stand p l e R s m args below meth c T' locs (cells + 1) (slots + n) → T'.heap = h' → Ext h h' → Exa Z h' a Cn → (∀ {O nm d : String} {ty : FieldType}, Laid Z a0 Cn O nm d → parseFieldDescriptor d = some ty → Fld Z h' a O nm d (defaultValue ty)) → Ends p e below s Q K N (T'.setTop (mkF m q Ls (.ref a :: rest)))) : Ends p e below s Q K N (T.setTop (mkF m pc Ls rest)) := by
  subst hq
  obtain ⟨T', h', X', e', E, A, D, -, st⟩ := newO X C.1 hZ hown w wi wz eT (g := mkF m pc Ls rest) rfl (hb C.2 hd) hc hl
  exact .step st (k T' h' _ rfl X' e' E A D)
theorem o_getF (C : Cx p c code) (X : Stand p l e R s m args below meth c T locs cells slots) (hZ : Z.Warmed39 s.vm) {own R0 O n d : String} {index : Nat} (hown : s.vm.findClass own = some m.cls) (w : (Jvm.Cond.fieldLink own index R0 n d).before a0 Z = true) (via : Via Z R0 O n d) (eT : T.heap = h) {a : Addr} {v : Value} (F : Fld Z h a O n d v) (hd : decode code pc = .ok (.getfield index, 3)) (q : Nat) (hq : pc + 3 = q)
    (k : ∀ (T' : State), Stand p l e R s m args below meth c T' locs cells slots → T'.heap = h → Ends p e below s Q K N (T'.setTop (mkF m q Ls (v :: rest)))) : Ends p e below s Q K N (T.setTop (mkF m pc Ls (.ref a :: rest))) := by
  subst hq
  obtain ⟨T', X', e', st⟩ := getF X C.1 hZ hown (host := "") (Or.inl w) via eT F (g := mkF m pc Ls (.ref a :: rest)) rfl rfl (hb C.2 hd)
  exact .step st (k T' X' e')
theorem o_putF (C : Cx p c code) (X : Stand p l e R s m args below meth c T locs cells slots) (hZ : Z.Warmed39 s.vm) {own R0 O n d Cn : String} {index kk : Nat} {ty : FieldType} (hown : s.vm.findClass own = some m.cls) (w : (Jvm.Cond.fieldLink own index R0 n d).before a0 Z = true) (via : Via Z R0 O n d) (eT : T.heap = h) {a : Addr} {v old : Value} (F : Fld Z h a O n d old) (E : Exa Z h a Cn) (L : (Jvm.Cond.lays Cn O n d).before a0 Z = true ∨ ((Jvm.Cond.laysFinal Cn O n d).before a0 Z = true ∧ own = O ∧ meth.name = "<init>")) (wi : (Jvm.Cond.instantiable Cn kk).before a0 Z = true) (hty : parseFieldDescriptor d = some ty) (hn : narrow ty v = v) (hf : fits ty v = true) (hd : decode code pc = .ok (.putfield index, 3)) (q : Nat) (hq : pc + 3 = q) {n0 : Nat} (N0 : Fr n0 locs) (ha : n0 ≤ a)
    (k : ∀ (T' : State) (h' : Heap) (locs' : List Loc), Stand p l e R s m args below meth c T' locs' cells slots → T'.heap = h' → Wr h h' a (Jvm.RoadKit.slotOf Z O n d) v → Fr n0 locs' → Ends p e below s Q K N (T'.setTop (mkF m q Ls rest))) : Ends p e below s Q K N (T.setTop (mkF m pc Ls (v :: .ref a :: rest))) := by
  subst hq
  obtain ⟨T', h', X', e', W, st⟩ := putF X C.1 hZ hown (host := "") (Or.inl w) via eT F E L wi hty hn hf (g := mkF m pc Ls (v :: .ref a :: rest)) rfl rfl (hb C.2 hd)
  exact .step st (k T' h' _ X' e' W (Fr.snoc X' N0 ha))
theorem o_initO (C : Cx p c code) (X : Stand p l e R s m args below meth c T locs cells slots) (hZ : Z.Warmed39 s.vm) (hml : c.maxLocals = Ls.size) {own : String} {idx : Nat} (hown : s.vm.findClass own = some m.cls) (w1 : (Jvm.Cond.methodLink own idx Lib.objectInit).before a0 Z = true) (w2 : (Jvm.Cond.instanceMethod Lib.objectInit).before a0 Z = true) (w3 : (Jvm.Cond.code Lib.objectInit object_method_1_code 1 none).before a0 Z = true) (eT : T.heap = h) {a : Addr} (W : Nat) (hW : (rest.map fun v => v.category).sum ≤ W) (hf : 1 ≤ R.frames) (hl : W + 12 ≤ R.locals) (hd : decode code pc = .ok (.invokespecial idx, 3)) (q : Nat) (hq : pc + 3 = q)
    (k : ∀ (T' : State), Stand p l e R s m args below meth c T' locs cells slots → T'.heap = h → Ends p e below s Q K N (T'.setTop (mkF m q Ls rest))) : Ends p e below s Q K N (T.setTop (mkF m pc Ls (.ref a :: rest))) := by
  subst hq
  obtain ⟨T', X', e', st⟩ := initO X C.1 hZ hown w1 w2 w3 eT (g := mkF m pc Ls (.ref a :: rest)) rfl hml.symm rfl (hb C.2 hd) hf (W := W) (by show 2 * 0 + _ ≤ _; omega) hl
  exact .step st (k T' X' e')
/-- the array at a has n places; the place j holds the int f j -/
def AI (Z : State) (h : Heap) (a : Addr) (ty : FieldType) (n : Nat) (f : Nat → Int32) : Prop := ∃ cl : Cell, Arr Z h a cl ty ∧ cl.slots.size = n ∧ n < 2 ^ 31 ∧ ∀ j, j < n → cl.slots[j]? = some (.int (f j))
theorem AI.lt {a : Addr} {ty : FieldType} {n : Nat} {f : Nat → Int32} (A : AI Z h a ty n f) : a < h.size := by
  obtain ⟨cl, A, -⟩ := A; exact A.lt
theorem AI.ext {h' : Heap} {a : Addr} {ty : FieldType} {n : Nat} {f : Nat → Int32} (A : AI Z h a ty n f) (E : Ext h h') : AI Z h' a ty n f := by
  obtain ⟨cl, A, B⟩ := A; exact ⟨cl, A.ext E, B⟩
theorem AI.other {h' : Heap} {a b : Addr} {ty : FieldType} {n sl : Nat} {v : Value} {f : Nat → Int32} (A : AI Z h b ty n f) (W : Wr h h' a sl v) (q : b ≠ a) : AI Z h' b ty n f := by
  obtain ⟨cl, A, B⟩ := A; exact ⟨cl, A.other W q, B⟩
theorem AI.keep {h' : Heap} {a : Addr} {ty : FieldType} {n : Nat} {f : Nat → Int32} {ws : List Addr} (A : AI Z h a ty n f) (k : Keep h h' ws) (q : a ∉ ws) : AI Z h' a ty n f := by
  obtain ⟨cl, ⟨A1, A2⟩, B⟩ := A; exact ⟨cl, ⟨k.2.1 _ _ A1 q, A2⟩, B⟩
theorem AI.wr {h' : Heap} {a : Addr} {ty : FieldType} {n i : Nat} {v : Int32} {f : Nat → Int32} (A : AI Z h a ty n f) (W : Wr h h' a i (.int v)) (hi : i < n) : AI Z h' a ty n (fun j => if j = i then v else f j) := by
  obtain ⟨cl, A, S, M, B⟩ := A
  refine ⟨_, A.same W, by rw [sz_set]; exact S, M, fun j hj => ?_⟩
  show (cl.slots.setIfInBounds i (.int v))[j]? = _
  rw [Array.getElem?_setIfInBounds]
  by_cases q : i = j
  · subst q; rw [if_pos rfl, if_pos (by rw [S]; exact hi)]; dsimp only; rw [if_pos rfl]
  · rw [if_neg q, B j hj]; dsimp only; rw [if_neg (fun r => q r.symm)]
theorem AI.congr {a : Addr} {ty : FieldType} {n : Nat} {f g : Nat → Int32} (A : AI Z h a ty n f) (q : ∀ j, j < n → f j = g j) : AI Z h a ty n g := by
  obtain ⟨cl, A, S, M, B⟩ := A
  exact ⟨cl, A, S, M, fun j hj => by rw [B j hj, q j hj]⟩
theorem AI.ne {a b : Addr} {ty : FieldType} {n : Nat} {f : Nat → Int32} (A : AI Z h a ty n f) (q : b = h.size) : a ≠ b := fun r => by
  have := A.lt; rw [r, q] at this; exact Nat.lt_irrefl _ this
theorem own_idx {m : Nat} {j : Int32} {i n : Nat} (hj : j.toInt = i) (hi : i < n) (S : m = n) : ¬ (j < 0 ∨ m ≤ j.toNatClampNeg) ∧ j.toNatClampNeg = i := by
  have e1 : j.toNatClampNeg = i := by rw [Int32.toNatClampNeg, hj]; rfl
  refine ⟨?_, e1⟩
  rw [e1, S, Int32.lt_iff_toInt_lt, hj, show (0 : Int32).toInt = 0 from rfl]
  omega
theorem o_iaload (C : Cx p c code) (X : Stand p l e R s m args below meth c T locs cells slots) (hZ : Z.Warmed39 s.vm) (eT : T.heap = h) {a : Addr} {n : Nat} {f : Nat → Int32} (A : AI Z h a .int n f) {j : Int32} (i : Nat) (hj : j.toInt = i) (hi : i < n) (hd : decode code pc = .ok (.iaload, 1)) (q : Nat) (hq : pc + 1 = q) (k : Ends p e below s Q K N (T.setTop (mkF m q Ls (.int (f i) :: rest)))) : Ends p e below s Q K N (T.setTop (mkF m pc Ls (.int j :: .ref a :: rest))) := by
  subst hq
  obtain ⟨cl, A, S, M, B⟩ := A
  obtain ⟨q1, q2⟩ := own_idx hj hi S
  exact .step (fun t kt => X.iaload C.1 (j := j) (v := .int (f i)) (by rw [eT]; exact A.1) (State.isArrayOf_alike hZ.alike A.2.1) A.2.2 q1 (by rw [q2]; exact B i hi) (g := mkF m pc Ls (.int j :: .ref a :: rest)) rfl rfl (hb C.2 hd) t kt) k
theorem o_baload (C : Cx p c code) (X : Stand p l e R s m args below meth c T locs cells slots) (hZ : Z.Warmed39 s.vm) (eT : T.heap = h) {a : Addr} {n : Nat} {f : Nat → Int32} (A : AI Z h a .byte n f) {j : Int32} (i : Nat) (hj : j.toInt = i) (hi : i < n) (hd : decode code pc = .ok (.baload, 1)) (q : Nat) (hq : pc + 1 = q) (k : Ends p e below s Q K N (T.setTop (mkF m q Ls (.int (f i) :: rest)))) : Ends p e below s Q K N (T.setTop (mkF m pc Ls (.int j :: .ref a :: rest))) := by
  subst hq
  obtain ⟨cl, A, S, M, B⟩ := A
  obtain ⟨q1, q2⟩ := own_idx hj hi S
  exact .step (fun t kt => X.baloadBytes C.1 (j := j) (v := .int (f i)) (by rw [eT]; exact A.1) (State.isArrayOf_alike hZ.alike A.2.1) A.2.2 q1 (by rw [q2]; exact B i hi) (g := mkF m pc Ls (.int j :: .ref a :: rest)) rfl rfl (hb C.2 hd) t kt) k
theorem o_arraylength (C : Cx p c code) (X : Stand p l e R s m args below meth c T locs cells slots) (hZ : Z.Warmed39 s.vm) (eT : T.heap = h) {a : Addr} {ty : FieldType} {n : Nat} {f : Nat → Int32} (A : AI Z h a ty n f) (v : Int32) (hv : n.toInt32 = v) (hd : decode code pc = .ok (.arraylength, 1)) (q : Nat) (hq : pc + 1 = q) (k : Ends p e below s Q K N (T.setTop (mkF m q Ls (.int v :: rest)))) : Ends p e below s Q K N (T.setTop (mkF m pc Ls (.ref a :: rest))) := by
  subst hq hv
  obtain ⟨cl, A, rfl, M, B⟩ := A
  exact .step (fun t kt => X.arraylength C.1 (by rw [eT]; exact A.1) (State.isArrayOf_alike hZ.alike A.2.1) (g := mkF m pc Ls (.ref a :: rest)) rfl (rest := rest) rfl (hb C.2 hd) t kt) k
theorem o_iastore (C : Cx p c code) (X : Stand p l e R s m args below meth c T locs cells slots) (hZ : Z.Warmed39 s.vm) (eT : T.heap = h) {a : Addr} {n : Nat} {f : Nat → Int32} (A : AI Z h a .int n f) {j x : Int32} (i : Nat) (hj : j.toInt = i) (hi : i < n) (hd : decode code pc = .ok (.iastore, 1)) (q : Nat) (hq : pc + 1 = q) {n0 : Nat} (N0 : Fr n0 locs) (ha : n0 ≤ a)
    (k : ∀ (T' : State) (h' : Heap) (locs' : List Loc), Stand p l e R s m args below meth c T' locs' cells slots → T'.heap = h' → Wr h h' a i (.int x) → Fr n0 locs' → AI Z h' a .int n (fun j => if j = i then x else f j) → Ends p e below s Q K N (T'.setTop (mkF m q Ls rest))) : Ends p e below s Q K N (T.setTop (mkF m pc Ls (.int x :: .int j :: .ref a :: rest))) := by
  subst hq
  obtain ⟨cl, A', S, M, B⟩ := A
  obtain ⟨q1, q2⟩ := own_idx hj hi S
  obtain ⟨T', h', X', e', W, st⟩ := stI X C.1 hZ eT A' (j := j) (x := x) q1 (g := mkF m pc Ls (.int x :: .int j :: .ref a :: rest)) rfl rfl (hb C.2 hd)
  rw [q2] at W
  exact .step st (k T' h' _ X' e' W (Fr.snoc X' N0 ha) (AI.wr ⟨cl, A', S, M, B⟩ W hi))
theorem o_bastore (C : Cx p c code) (X : Stand p l e R s m args below meth c T locs cells slots) (hZ : Z.Warmed39 s.vm) (eT : T.heap = h) {a : Addr} {n : Nat} {f : Nat → Int32} (A : AI Z h a .byte n f) {j x : Int32} (i : Nat) (hj : j.toInt = i) (hi : i < n) (hd : decode code pc = .ok (.bastore, 1)) (q : Nat) (hq : pc + 1 = q) {n0 : Nat} (N0 : Fr n0 locs) (ha : n0 ≤ a)
    (k : ∀ (T' : State) (h' : Heap) (locs' : List Loc), Stand p l e R s m args below meth c T' locs' cells slots → T'.heap = h' → Wr h h' a i (.int (nar .byte x)) → Fr n0 locs' → AI Z h' a .byte n (fun j => if j = i then (nar .byte x) else f j) → Ends p e below s Q K N (T'.setTop (mkF m q Ls rest))) : Ends p e below s Q K N (T.setTop (mkF m pc Ls (.int x :: .int j :: .ref a :: rest))) := by
  subst hq
  obtain ⟨cl, A', S, M, B⟩ := A
  obtain ⟨q1, q2⟩ := own_idx hj hi S
  obtain ⟨T', h', X', e', W, st⟩ := stB X C.1 hZ eT A' (j := j) (x := x) q1 (g := mkF m pc Ls (.int x :: .int j :: .ref a :: rest)) rfl rfl (hb C.2 hd)
  rw [q2] at W
  exact .step st (k T' h' _ X' e' W (Fr.snoc X' N0 ha) (AI.wr ⟨cl, A', S, M, B⟩ W hi))
theorem o_newarrayI (C : Cx p c code) (X : Stand p l e R s m args below meth c T locs cells slots) (hZ : Z.Warmed39 s.vm) (w : (Jvm.Cond.arrayClass .int).before a0 Z = true) (eT : T.heap = h) {z : Int32} (n : Nat) (hz : z.toInt = n) (cap : Nat) (hcap : n ≤ cap) (hb8 : cap * 8 ≤ 536870912) (hc : cells + 1 ≤ R.cells) (hl : slots + cap ≤ R.slots) (hd : decode code pc = .ok (.newarray .int, 2)) (q : Nat) (hq : pc + 2 = q)
    (k : ∀ (T' : State) (h' : Heap) (a : Addr), a = h.size → Stand p l e R s m args below meth c T' locs (cells + 1) (slots + cap) → T'.heap = h' → Ext h h' → AI Z h' a .int n (fun _ => 0) → Ends p e below s Q K N (T'.setTop (mkF m q Ls (.ref a :: rest)))) : Ends p e below s Q K N (T.setTop (mkF m pc Ls (.int z :: rest))) := by
  subst hq
  have hn : ¬ z < 0 := by rw [Int32.lt_iff_toInt_lt, hz, show (0 : Int32).toInt = 0 from rfl]; omega
  have e1 : z.toNatClampNeg = n := by rw [Int32.toNatClampNeg, hz]; rfl
  have hr := Int32.toInt_lt z
  obtain ⟨T', h', cA, X', e', E, A, st⟩ := newP X C.1 hZ (aty := .int) w eT (g := mkF m pc Ls (.int z :: rest)) rfl (hb C.2 hd) (n := z) (rest := rest) rfl hn (cap := cap) (by rw [e1]; exact hcap) hb8 hc hl
  refine .step st (k T' h' _ rfl X' e' E ⟨_, A, by rw [sz_new, e1], by omega, fun j hj => ?_⟩)
  simp only [newA, e1]
  rw [Array.getElem?_replicate, if_pos hj]; rfl
theorem o_newarrayB (C : Cx p c code) (X : Stand p l e R s m args below meth c T locs cells slots) (hZ : Z.Warmed39 s.vm) (w : (Jvm.Cond.arrayClass .byte).before a0 Z = true) (eT : T.heap = h) {z : Int32} (n : Nat) (hz : z.toInt = n) (cap : Nat) (hcap : n ≤ cap) (hb8 : cap * 8 ≤ 536870912) (hc : cells + 1 ≤ R.cells) (hl : slots + cap ≤ R.slots) (hd : decode code pc = .ok (.newarray .byte, 2)) (q : Nat) (hq : pc + 2 = q)
    (k : ∀ (T' : State) (h' : Heap) (a : Addr), a = h.size → Stand p l e R s m args below meth c T' locs (cells + 1) (slots + cap) → T'.heap = h' → Ext h h' → AI Z h' a .byte n (fun _ => 0) → Ends p e below s Q K N (T'.setTop (mkF m q Ls (.ref a :: rest)))) : Ends p e below s Q K N (T.setTop (mkF m pc Ls (.int z :: rest))) := by
  subst hq
  have hn : ¬ z < 0 := by rw [Int32.lt_iff_toInt_lt, hz, show (0 : Int32).toInt = 0 from rfl]; omega
  have e1 : z.toNatClampNeg = n := by rw [Int32.toNatClampNeg, hz]; rfl
  have hr := Int32.toInt_lt z
  obtain ⟨T', h', cA, X', e', E, A, st⟩ := newP X C.1 hZ (aty := .byte) w eT (g := mkF m pc Ls (.int z :: rest)) rfl (hb C.2 hd) (n := z) (rest := rest) rfl hn (cap := cap) (by rw [e1]; exact hcap) hb8 hc hl
  refine .step st (k T' h' _ rfl X' e' E ⟨_, A, by rw [sz_new, e1], by omega, fun j hj => ?_⟩)
  simp only [newA, e1]
  rw [Array.getElem?_replicate, if_pos hj]; rfl
end Own
def FP (Z : State) (h : Heap) (a : Addr) (v0 v1 v2 : Value) : Prop := Exa Z h a "com/example/fenceline/fenceline/ClosedArenas$Footprint" ∧ Fld Z h a "com/example/fenceline/fenceline/ClosedArenas$Footprint" "bytes" "J" v0 ∧ Fld Z h a "com/example/fenceline/fenceline/ClosedArenas$Footprint" "blocks" "J" v1 ∧ Fld Z h a "com/example/fenceline/fenceline/ClosedArenas$Footprint" "mappings" "J" v2
theorem FP.ext {Z : State} {h h' : Heap} {a : Addr} {v0 v1 v2 : Value} (P : FP Z h a v0 v1 v2) (E : Ext h h') : FP Z h' a v0 v1 v2 := ⟨P.1.ext E, P.2.1.ext E, P.2.2.1.ext E, P.2.2.2.ext E⟩
theorem FP.keep {Z : State} {h h' : Heap} {a : Addr} {v0 v1 v2 : Value} {ws : List Addr} (P : FP Z h a v0 v1 v2) (K : Keep h h' ws) (q : a ∉ ws) : FP Z h' a v0 v1 v2 := ⟨P.1.keep K, P.2.1.keep K q, P.2.2.1.keep K q, P.2.2.2.keep K q⟩
theorem FP.other {Z : State} {h h' : Heap} {a : Addr} {v0 v1 v2 : Value} {b : Addr} {sl : Nat} {w : Value} (P : FP Z h a v0 v1 v2) (W : Wr h h' b sl w) (q : a ≠ b) : FP Z h' a v0 v1 v2 := ⟨P.1.wr W, P.2.1.other W (Or.inl q), P.2.2.1.other W (Or.inl q), P.2.2.2.other W (Or.inl q)⟩
theorem FP.wr0 {Z : State} {h h' : Heap} {a : Addr} {v0 v1 v2 : Value} {w : Value} {a0 : Array Value} (hw : ∀ d ∈ tables_1, d.before a0 Z = true) (P : FP Z h a v0 v1 v2) (W : Wr h h' a (Jvm.RoadKit.slotOf Z "com/example/fenceline/fenceline/ClosedArenas$Footprint" "bytes" "J") w) : FP Z h' a w v1 v2 := ⟨P.1.wr W, P.2.1.same W, P.2.2.1.other W (Or.inr (slot_ne (Or.inl (hw _ (List.mem_of_getElem? (i := 12) rfl))) (Or.inl (hw _ (List.mem_of_getElem? (i := 10) rfl))) (by decide) (t := .long) (t' := .long) (by decide) (by decide))), P.2.2.2.other W (Or.inr (slot_ne (Or.inl (hw _ (List.mem_of_getElem? (i := 14) rfl))) (Or.inl (hw _ (List.mem_of_getElem? (i := 10) rfl))) (by decide) (t := .long) (t' := .long) (by decide) (by decide)))⟩
theorem FP.wr1 {Z : State} {h h' : Heap} {a : Addr} {v0 v1 v2 : Value} {w : Value} {a0 : Array Value} (hw : ∀ d ∈ tables_1, d.before a0 Z = true) (P : FP Z h a v0 v1 v2) (W : Wr h h' a (Jvm.RoadKit.slotOf Z "com/example/fenceline/fenceline/ClosedArenas$Footprint" "blocks" "J") w) : FP Z h' a v0 w v2 := ⟨P.1.wr W, P.2.1.other W (Or.inr (slot_ne (Or.inl (hw _ (List.mem_of_getElem? (i := 10) rfl))) (Or.inl (hw _ (List.mem_of_getElem? (i := 12) rfl))) (by decide) (t := .long) (t' := .long) (by decide) (by decide))), P.2.2.1.same W, P.2.2.2.other W (Or.inr (slot_ne (Or.inl (hw _ (List.mem_of_getElem? (i := 14) rfl))) (Or.inl (hw _ (List.mem_of_getElem? (i := 12) rfl))) (by decide) (t := .long) (t' := .long) (by decide) (by decide)))⟩
theorem FP.wr2 {Z : State} {h h' : Heap} {a : Addr} {v0 v1 v2 : Value} {w : Value} {a0 : Array Value} (hw : ∀ d ∈ tables_1, d.before a0 Z = true) (P : FP Z h a v0 v1 v2) (W : Wr h h' a (Jvm.RoadKit.slotOf Z "com/example/fenceline/fenceline/ClosedArenas$Footprint" "mappings" "J") w) : FP Z h' a v0 v1 w := ⟨P.1.wr W, P.2.1.other W (Or.inr (slot_ne (Or.inl (hw _ (List.mem_of_getElem? (i := 10) rfl))) (Or.inl (hw _ (List.mem_of_getElem? (i := 14) rfl))) (by decide) (t := .long) (t' := .long) (by decide) (by decide))), P.2.2.1.other W (Or.inr (slot_ne (Or.inl (hw _ (List.mem_of_getElem? (i := 12) rfl))) (Or.inl (hw _ (List.mem_of_getElem? (i := 14) rfl))) (by decide) (t := .long) (t' := .long) (by decide) (by decide))), P.2.2.2.same W⟩
theorem d1_0 : decode prog_12_method_1_code 0 = .ok (.aload_n 0, 1) := by decide +kernel
theorem d1_1 : decode prog_12_method_1_code 1 = .ok (.invokespecial 1, 3) := by decide +kernel
theorem d1_4 : decode prog_12_method_1_code 4 = .ok (.aload_n 0, 1) := by decide +kernel
theorem d1_5 : decode prog_12_method_1_code 5 = .ok (.lload_n 1, 1) := by decide +kernel
theorem d1_6 : decode prog_12_method_1_code 6 = .ok (.putfield 7, 3) := by decide +kernel
theorem d1_9 : decode prog_12_method_1_code 9 = .ok (.aload_n 0, 1) := by decide +kernel
theorem d1_10 : decode prog_12_method_1_code 10 = .ok (.lload_n 3, 1) := by decide +kernel
theorem d1_11 : decode prog_12_method_1_code 11 = .ok (.putfield 13, 3) := by decide +kernel
theorem d1_14 : decode prog_12_method_1_code 14 = .ok (.aload_n 0, 1) := by decide +kernel
theorem d1_15 : decode prog_12_method_1_code 15 = .ok (.lload 5, 2) := by decide +kernel
theorem d1_17 : decode prog_12_method_1_code 17 = .ok (.putfield 16, 3) := by decide +kernel
theorem d1_20 : decode prog_12_method_1_code 20 = .ok (.return_, 1) := by decide +kernel
theorem pn_1 : plainFor (⟨"com/example/fenceline/fenceline/ClosedArenas$Footprint", "<init>", "(JJJ)V"⟩ : MethodName) = true := by first | exact plainFor_of_name (by first | (simp [plainName, overriddenIn]; done) | decide +kernel) | decide +kernel
theorem ef_1 (m : MethodId) (a : Addr) (u0 : Int64) (u1 : Int64) (u2 : Int64) : entryFrame m #[(.ref a), (.long u0), (.long u1), (.long u2)] 7 = (mkF m 0 #[.val (.ref a), .val (.long u0), .second, .val (.long u1), .second, .val (.long u2), .second] []) := by first | (simp [entryFrame, mkF, argsToLocals, Value.category]; done) | rfl
set_option maxRecDepth 65536 in
set_option maxHeartbeats 40000000 in
theorem rm1 (l : Launch) (Z : State) (a0 : Array Value) (hw : ∀ d ∈ tables_1, d.before a0 Z = true) (a : Addr) (u0 u1 u2 : Int64) (h0 : Heap) (n0 : Nat) (ge_a : n0 ≤ a) (P : FP Z h0 a (.long 0) (.long 0) (.long 0)) : Con l Z (⟨"com/example/fenceline/fenceline/ClosedArenas$Footprint", "<init>", "(JJJ)V"⟩ : MethodName) prog_12_method_1_code 7 none ({ frames := 1, cells := 0, slots := 0, locals := 12 } : Room) 0 0 [] #[(.ref a), (.long u0), (.long u1), (.long u2)] h0 (fun v h L => v = none ∧ Fr n0 L ∧ Keep h0 h [a] ∧ FP Z h a (.long u0) (.long u1) (.long u2)) := by
  refine Con.of pn_1 ?_
  intro p e s m below meth c T C hZ hml hown hret hnm hlk X e0
  rw [ef_1]
  have N0 := Fr.nil n0
  refine o_aloadN C X d1_0 1 rfl rfl rfl ?_
  refine o_initO C X hZ (by rw [hml]; rfl) hown (hw _ (List.mem_of_getElem? (i := 6) rfl)) (hw _ (List.mem_of_getElem? (i := 7) rfl)) (hw _ (List.mem_of_getElem? (i := 8) rfl)) e0 0 (Nat.le_of_eq rfl) (by decide) (by decide) d1_1 4 rfl ?_
  intro T X e0
  refine o_aloadN C X d1_4 5 rfl rfl rfl ?_
  refine o_lloadN C X d1_5 6 rfl rfl ?_
  refine o_putF C X hZ hown (hw _ (List.mem_of_getElem? (i := 9) rfl)) Via.refl e0 P.2.1 P.1 (Or.inl (hw _ (List.mem_of_getElem? (i := 10) rfl))) (hw _ (List.mem_of_getElem? (i := 1) rfl)) (ty := .long) (by decide) rfl rfl d1_6 9 rfl N0 ge_a ?_
  intro T h_1 locs_1 X e_1 W_1 N0
  have Pa_1 := P.wr0 hw W_1
  have K_1 := (Keep.refl h0 [a]).wr W_1 (Or.inl (by simp))
  refine o_aloadN C X d1_9 10 rfl rfl rfl ?_
  refine o_lloadN C X d1_10 11 rfl rfl ?_
  refine o_putF C X hZ hown (hw _ (List.mem_of_getElem? (i := 11) rfl)) Via.refl e_1 Pa_1.2.2.1 Pa_1.1 (Or.inl (hw _ (List.mem_of_getElem? (i := 12) rfl))) (hw _ (List.mem_of_getElem? (i := 1) rfl)) (ty := .long) (by decide) rfl rfl d1_11 14 rfl N0 ge_a ?_
  intro T h_2 locs_2 X e_2 W_2 N0
  have Pa_2 := Pa_1.wr1 hw W_2
  have K_2 := K_1.wr W_2 (Or.inl (by simp))
  refine o_aloadN C X d1_14 15 rfl rfl rfl ?_
  refine o_lload C X d1_15 17 rfl rfl ?_
  refine o_putF C X hZ hown (hw _ (List.mem_of_getElem? (i := 13) rfl)) Via.refl e_2 Pa_2.2.2.2 Pa_2.1 (Or.inl (hw _ (List.mem_of_getElem? (i := 14) rfl))) (hw _ (List.mem_of_getElem? (i := 1) rfl)) (ty := .long) (by decide) rfl rfl d1_17 20 rfl N0 ge_a ?_
  intro T h_3 locs_3 X e_3 W_3 N0
  have Pa_3 := Pa_2.wr2 hw W_3
  have K_3 := K_2.wr W_3 (Or.inl (by simp))
  exact o_ret C X hret hlk d1_20 (by subst e_3; exact ⟨rfl, N0, K_3, Pa_3⟩) (Nat.le_refl _) (Nat.le_refl _)
theorem d4_0 : decode prog_12_method_2_code 0 = .ok (.aload_n 0, 1) := by decide +kernel
theorem d4_1 : decode prog_12_method_2_code 1 = .ok (.getfield 7, 3) := by decide +kernel
theorem d4_4 : decode prog_12_method_2_code 4 = .ok (.lreturn, 1) := by decide +kernel
theorem pn_4 : plainFor (⟨"com/example/fenceline/fenceline/ClosedArenas$Footprint", "bytes", "()J"⟩ : MethodName) = true := by first | exact plainFor_of_name (by first | (simp [plainName, overriddenIn]; done) | decide +kernel) | decide +kernel
theorem ef_4 (m : MethodId) (a : Addr) : entryFrame m #[(.ref a)] 1 = (mkF m 0 #[.val (.ref a)] []) := by first | (simp [entryFrame, mkF, argsToLocals, Value.category]; done) | rfl
set_option maxRecDepth 65536 in
set_option maxHeartbeats 40000000 in
theorem rm4 (l : Launch) (Z : State) (a0 : Array Value) (hw : ∀ d ∈ tables_1, d.before a0 Z = true) (a : Addr) (u0 u1 u2 : Int64) (h0 : Heap) (P : FP Z h0 a (.long u0) (.long u1) (.long u2)) : Con l Z (⟨"com/example/fenceline/fenceline/ClosedArenas$Footprint", "bytes", "()J"⟩ : MethodName) prog_12_method_2_code 1 (some .long) ({ frames := 0, cells := 0, slots := 0, locals := 0 } : Room) 0 0 [] #[(.ref a)] h0 (PQ (.long u0) h0) := by
  refine Con.of pn_4 ?_
  intro p e s m below meth c T C hZ hml hown hret hnm hlk X e0
  rw [ef_4]
  refine o_aloadN C X d4_0 1 rfl rfl rfl ?_
  refine o_getF C X hZ hown (hw _ (List.mem_of_getElem? (i := 9) rfl)) Via.refl e0 P.2.1 d4_1 4 rfl ?_
  intro T X e0
  exact o_retJ C X hret hlk d4_4 ⟨rfl, rfl, e0⟩ (Nat.le_refl _) (Nat.le_refl _)
theorem d5_0 : decode prog_12_method_3_code 0 = .ok (.aload_n 0, 1) := by decide +kernel
theorem d5_1 : decode prog_12_method_3_code 1 = .ok (.getfield 13, 3) := by decide +kernel
theorem d5_4 : decode prog_12_method_3_code 4 = .ok (.lreturn, 1) := by decide +kernel
theorem pn_5 : plainFor (⟨"com/example/fenceline/fenceline/ClosedArenas$Footprint", "blocks", "()J"⟩ : MethodName) = true := by first | exact plainFor_of_name (by first | (simp [plainName, overriddenIn]; done) | decide +kernel) | decide +kernel
theorem ef_5 (m : MethodId) (a : Addr) : entryFrame m #[(.ref a)] 1 = (mkF m 0 #[.val (.ref a)] []) := by first | (simp [entryFrame, mkF, argsToLocals, Value.category]; done) | rfl
set_option maxRecDepth 65536 in
set_option maxHeartbeats 40000000 in
theorem rm5 (l : Launch) (Z : State) (a0 : Array Value) (hw : ∀ d ∈ tables_1, d.before a0 Z = true) (a : Addr) (u0 u1 u2 : Int64) (h0 : Heap) (P : FP Z h0 a (.long u0) (.long u1) (.long u2)) : Con l Z (⟨"com/example/fenceline/fenceline/ClosedArenas$Footprint", "blocks", "()J"⟩ : MethodName) prog_12_method_3_code 1 (some .long) ({ frames := 0, cells := 0, slots := 0, locals := 0 } : Room) 0 0 [] #[(.ref a)] h0 (PQ (.long u1) h0) := by
  refine Con.of pn_5 ?_
  intro p e s m below meth c T C hZ hml hown hret hnm hlk X e0
  rw [ef_5]
  refine o_aloadN C X d5_0 1 rfl rfl rfl ?_
  refine o_getF C X hZ hown (hw _ (List.mem_of_getElem? (i := 11) rfl)) Via.refl e0 P.2.2.1 d5_1 4 rfl ?_
  intro T X e0
  exact o_retJ C X hret hlk d5_4 ⟨rfl, rfl, e0⟩ (Nat.le_refl _) (Nat.le_refl _)
theorem d6_0 : decode prog_12_method_4_code 0 = .ok (.aload_n 0, 1) := by decide +kernel
theorem d6_1 : decode prog_12_method_4_code 1 = .ok (.getfield 16, 3) := by decide +kernel
theorem d6_4 : decode prog_12_method_4_code 4 = .ok (.lreturn, 1) := by decide +kernel
theorem pn_6 : plainFor (⟨"com/example/fenceline/fenceline/ClosedArenas$Footprint", "mappings", "()J"⟩ : MethodName) = true := by first | exact plainFor_of_name (by first | (simp [plainName, overriddenIn]; done) | decide +kernel) | decide +kernel
theorem ef_6 (m : MethodId) (a : Addr) : entryFrame m #[(.ref a)] 1 = (mkF m 0 #[.val (.ref a)] []) := by first | (simp [entryFrame, mkF, argsToLocals, Value.category]; done) | rfl
set_option maxRecDepth 65536 in
set_option maxHeartbeats 40000000 in
theorem rm6 (l : Launch) (Z : State) (a0 : Array Value) (hw : ∀ d ∈ tables_1, d.before a0 Z = true) (a : Addr) (u0 u1 u2 : Int64) (h0 : Heap) (P : FP Z h0 a (.long u0) (.long u1) (.long u2)) : Con l Z (⟨"com/example/fenceline/fenceline/ClosedArenas$Footprint", "mappings", "()J"⟩ : MethodName) prog_12_method_4_code 1 (some .long) ({ frames := 0, cells := 0, slots := 0, locals := 0 } : Room) 0 0 [] #[(.ref a)] h0 (PQ (.long u2) h0) := by
  refine Con.of pn_6 ?_
  intro p e s m below meth c T C hZ hml hown hret hnm hlk X e0
  rw [ef_6]
  refine o_aloadN C X d6_0 1 rfl rfl rfl ?_
  refine o_getF C X hZ hown (hw _ (List.mem_of_getElem? (i := 13) rfl)) Via.refl e0 P.2.2.2 d6_1 4 rfl ?_
  intro T X e0
  exact o_retJ C X hret hlk d6_4 ⟨rfl, rfl, e0⟩ (Nat.le_refl _) (Nat.le_refl _)
theorem d3_0 : decode prog_12_method_6_code 0 = .ok (.aload_n 0, 1) := by decide +kernel
theorem d3_1 : decode prog_12_method_6_code 1 = .ok (.dup, 1) := by decide +kernel
theorem d3_2 : decode prog_12_method_6_code 2 = .ok (.getfield 7, 3) := by decide +kernel
theorem d3_5 : decode prog_12_method_6_code 5 = .ok (.aload_n 1, 1) := by decide +kernel
theorem d3_6 : decode prog_12_method_6_code 6 = .ok (.getfield 7, 3) := by decide +kernel
theorem d3_9 : decode prog_12_method_6_code 9 = .ok (.lsub, 1) := by decide +kernel
theorem d3_10 : decode prog_12_method_6_code 10 = .ok (.putfield 7, 3) := by decide +kernel
theorem d3_13 : decode prog_12_method_6_code 13 = .ok (.aload_n 0, 1) := by decide +kernel
theorem d3_14 : decode prog_12_method_6_code 14 = .ok (.dup, 1) := by decide +kernel
theorem d3_15 : decode prog_12_method_6_code 15 = .ok (.getfield 13, 3) := by decide +kernel
theorem d3_18 : decode prog_12_method_6_code 18 = .ok (.aload_n 1, 1) := by decide +kernel
theorem d3_19 : decode prog_12_method_6_code 19 = .ok (.getfield 13, 3) := by decide +kernel
theorem d3_22 : decode prog_12_method_6_code 22 = .ok (.lsub, 1) := by decide +kernel
theorem d3_23 : decode prog_12_method_6_code 23 = .ok (.putfield 13, 3) := by decide +kernel
theorem d3_26 : decode prog_12_method_6_code 26 = .ok (.aload_n 0, 1) := by decide +kernel
theorem d3_27 : decode prog_12_method_6_code 27 = .ok (.dup, 1) := by decide +kernel
theorem d3_28 : decode prog_12_method_6_code 28 = .ok (.getfield 16, 3) := by decide +kernel
theorem d3_31 : decode prog_12_method_6_code 31 = .ok (.aload_n 1, 1) := by decide +kernel
theorem d3_32 : decode prog_12_method_6_code 32 = .ok (.getfield 16, 3) := by decide +kernel
theorem d3_35 : decode prog_12_method_6_code 35 = .ok (.lsub, 1) := by decide +kernel
theorem d3_36 : decode prog_12_method_6_code 36 = .ok (.putfield 16, 3) := by decide +kernel
theorem d3_39 : decode prog_12_method_6_code 39 = .ok (.return_, 1) := by decide +kernel
theorem pn_3 : plainFor (⟨"com/example/fenceline/fenceline/ClosedArenas$Footprint", "subtract", "(Lcom/example/fenceline/fenceline/ClosedArenas$Footprint;)V"⟩ : MethodName) = true := by first | exact plainFor_of_name (by first | (simp [plainName, overriddenIn]; done) | decide +kernel) | decide +kernel
theorem ef_3 (m : MethodId) (a : Addr) (b : Addr) : entryFrame m #[(.ref a), (.ref b)] 2 = (mkF m 0 #[.val (.ref a), .val (.ref b)] []) := by first | (simp [entryFrame, mkF, argsToLocals, Value.category]; done) | rfl
set_option maxRecDepth 65536 in
set_option maxHeartbeats 40000000 in
theorem rm3 (l : Launch) (Z : State) (a0 : Array Value) (hw : ∀ d ∈ tables_1, d.before a0 Z = true) (a b : Addr) (u0 u1 u2 t0 t1 t2 : Int64) (h0 : Heap) (n0 : Nat) (ge_a : n0 ≤ a) (ne : a ≠ b) (P : FP Z h0 a (.long u0) (.long u1) (.long u2)) (P' : FP Z h0 b (.long t0) (.long t1) (.long t2)) : Con l Z (⟨"com/example/fenceline/fenceline/ClosedArenas$Footprint", "subtract", "(Lcom/example/fenceline/fenceline/ClosedArenas$Footprint;)V"⟩ : MethodName) prog_12_method_6_code 2 none ({ frames := 0, cells := 0, slots := 0, locals := 0 } : Room) 0 0 [] #[(.ref a), (.ref b)] h0 (fun v h L => v = none ∧ Fr n0 L ∧ Keep h0 h [a] ∧ FP Z h a (.long (u0 - t0)) (.long (u1 - t1)) (.long (u2 - t2))) := by
  refine Con.of pn_3 ?_
  intro p e s m below meth c T C hZ hml hown hret hnm hlk X e0
  rw [ef_3]
  have N0 := Fr.nil n0
  refine o_aloadN C X d3_0 1 rfl rfl rfl ?_
  refine o_dup C X d3_1 2 rfl rfl ?_
  refine o_getF C X hZ hown (hw _ (List.mem_of_getElem? (i := 9) rfl)) Via.refl e0 P.2.1 d3_2 5 rfl ?_
  intro T X e0
  refine o_aloadN C X d3_5 6 rfl rfl rfl ?_
  refine o_getF C X hZ hown (hw _ (List.mem_of_getElem? (i := 9) rfl)) Via.refl e0 P'.2.1 d3_6 9 rfl ?_
  intro T X e0
  refine o_lsub C X d3_9 10 rfl ?_
  refine o_putF C X hZ hown (hw _ (List.mem_of_getElem? (i := 9) rfl)) Via.refl e0 P.2.1 P.1 (Or.inl (hw _ (List.mem_of_getElem? (i := 10) rfl))) (hw _ (List.mem_of_getElem? (i := 1) rfl)) (ty := .long) (by decide) rfl rfl d3_10 13 rfl N0 ge_a ?_
  intro T h_1 locs_1 X e_1 W_1 N0
  have Pa_1 := P.wr0 hw W_1
  have Pb_1 := P'.other W_1 (Ne.symm ne)
  have K_1 := (Keep.refl h0 [a]).wr W_1 (Or.inl (by simp))
  refine o_aloadN C X d3_13 14 rfl rfl rfl ?_
  refine o_dup C X d3_14 15 rfl rfl ?_
  refine o_getF C X hZ hown (hw _ (List.mem_of_getElem? (i := 11) rfl)) Via.refl e_1 Pa_1.2.2.1 d3_15 18 rfl ?_
  intro T X e_1
  refine o_aloadN C X d3_18 19 rfl rfl rfl ?_
  refine o_getF C X hZ hown (hw _ (List.mem_of_getElem? (i := 11) rfl)) Via.refl e_1 Pb_1.2.2.1 d3_19 22 rfl ?_
  intro T X e_1
  refine o_lsub C X d3_22 23 rfl ?_
  refine o_putF C X hZ hown (hw _ (List.mem_of_getElem? (i := 11) rfl)) Via.refl e_1 Pa_1.2.2.1 Pa_1.1 (Or.inl (hw _ (List.mem_of_getElem? (i := 12) rfl))) (hw _ (List.mem_of_getElem? (i := 1) rfl)) (ty := .long) (by decide) rfl rfl d3_23 26 rfl N0 ge_a ?_
  intro T h_2 locs_2 X e_2 W_2 N0
  have Pa_2 := Pa_1.wr1 hw W_2
  have Pb_2 := Pb_1.other W_2 (Ne.symm ne)
  have K_2 := K_1.wr W_2 (Or.inl (by simp))
  refine o_aloadN C X d3_26 27 rfl rfl rfl ?_
  refine o_dup C X d3_27 28 rfl rfl ?_
  refine o_getF C X hZ hown (hw _ (List.mem_of_getElem? (i := 13) rfl)) Via.refl e_2 Pa_2.2.2.2 d3_28 31 rfl ?_
  intro T X e_2
  refine o_aloadN C X d3_31 32 rfl rfl rfl ?_
  refine o_getF C X hZ hown (hw _ (List.mem_of_getElem? (i := 13) rfl)) Via.refl e_2 Pb_2.2.2.2 d3_32 35 rfl ?_
  intro T X e_2
  refine o_lsub C X d3_35 36 rfl ?_
  refine o_putF C X hZ hown (hw _ (List.mem_of_getElem? (i := 13) rfl)) Via.refl e_2 Pa_2.2.2.2 Pa_2.1 (Or.inl (hw _ (List.mem_of_getElem? (i := 14) rfl))) (hw _ (List.mem_of_getElem? (i := 1) rfl)) (ty := .long) (by decide) rfl rfl d3_36 39 rfl N0 ge_a ?_
  intro T h_3 locs_3 X e_3 W_3 N0
  have Pa_3 := Pa_2.wr2 hw W_3
  have Pb_3 := Pb_2.other W_3 (Ne.symm ne)
  have K_3 := K_2.wr W_3 (Or.inl (by simp))
  exact o_ret C X hret hlk d3_39 (by subst e_3; exact ⟨rfl, N0, K_3, Pa_3⟩) (Nat.le_refl _) (Nat.le_refl _)
theorem pd_0 : parseMethodDescriptor "(JJJ)V" = some ⟨[.long, .long, .long], none⟩ := by decide +kernel
theorem pd_1 : parseMethodDescriptor "(Lcom/example/fenceline/fenceline/ClosedArenas$Footprint;)V" = some ⟨[(.object "com/example/fenceline/fenceline/ClosedArenas$Footprint")], none⟩ := by decide +kernel
theorem pd_2 : parseMethodDescriptor "()J" = some ⟨[], some .long⟩ := by decide +kernel
theorem pn_0 : plainFor x = true := by first | exact plainFor_of_name (by first | (simp [plainName, overriddenIn]; done) | decide +kernel) | decide +kernel
theorem ef_0 (m : MethodId) (x0 : Int64) (x1 : Int64) (x2 : Int64) (x3 : Int64) (x4 : Int64) (x5 : Int64) : entryFrame m #[(.long x0), (.long x1), (.long x2), (.long x3), (.long x4), (.long x5)] maxLocals = (mkF m 0 #[.val (.long x0), .second, .val (.long x1), .second, .val (.long x2), .second, .val (.long x3), .second, .val (.long x4), .second, .val (.long x5), .second, .unset, .unset, .unset, .unset] []) := by first | (simp [entryFrame, mkF, argsToLocals, Value.category, maxLocals]; done) | rfl
set_option maxRecDepth 65536 in
set_option maxHeartbeats 40000000 in
theorem rm0 (l : Launch) (Z : State) (a0 : Array Value) (hw : ∀ d ∈ tables_1, d.before a0 Z = true) (x0 : Int64) (x1 : Int64) (x2 : Int64) (x3 : Int64) (x4 : Int64) (x5 : Int64) (h0 : Heap) (n0 : Nat) (Z0 : n0 ≤ h0.size) : Con l Z x code maxLocals ret room_1 16 128 tables_1 #[(.long x0), (.long x1), (.long x2), (.long x3), (.long x4), (.long x5)] h0 (fun v _ L => v = some (.int 1) ∧ Fr n0 L) := by
  refine Con.of pn_0 ?_
  intro p e s m below meth c T C hZ hml hown hret hnm hlk X e0
  have N0 := Fr.nil n0
  rw [ef_0]
  refine o_new C X hZ hown (hw _ (List.mem_of_getElem? (i := 0) rfl)) (hw _ (List.mem_of_getElem? (i := 1) rfl)) (hw _ (List.mem_of_getElem? (i := 2) rfl)) e0 at_0 (by decide) (by decide) 3 rfl ?_
  intro T h_1 a1 g_a1 X e_1 E_1 A_1 D_1
  have ge_a1 : n0 ≤ a1 := by rw [g_a1]; exact Z0
  have Z_1 : n0 ≤ h_1.size := Nat.le_trans Z0 E_1.1
  have Pa1_1 : FP Z h_1 a1 (.long (0 : Int64)) (.long (0 : Int64)) (.long (0 : Int64)) := ⟨A_1, D_1 (Or.inl (hw _ (List.mem_of_getElem? (i := 10) rfl))) (ty := .long) (by decide), D_1 (Or.inl (hw _ (List.mem_of_getElem? (i := 12) rfl))) (ty := .long) (by decide), D_1 (Or.inl (hw _ (List.mem_of_getElem? (i := 14) rfl))) (ty := .long) (by decide)⟩
  refine o_dup C X at_3 4 rfl rfl ?_
  refine o_lloadN C X at_4 5 rfl rfl ?_
  refine o_lloadN C X at_5 6 rfl rfl ?_
  refine o_lload C X at_6 8 rfl rfl ?_
  refine o_callI C X hZ (by rw [hml]; rfl) (own := "com/example/fenceline/fenceline/FootprintSubtractPinLaw") (y := (⟨"com/example/fenceline/fenceline/ClosedArenas$Footprint", "<init>", "(JJJ)V"⟩ : MethodName)) hown rfl (hw _ (List.mem_of_getElem? (i := 3) rfl)) (hw _ (List.mem_of_getElem? (i := 4) rfl)) (hw _ (List.mem_of_getElem? (i := 2) rfl)) (hw _ (List.mem_of_getElem? (i := 5) rfl)) (by decide) (asL := [(.long x0), (.long x1), (.long x2)]) (a := a1) (rm1 l Z a0 hw a1 x0 x1 x2 h_1 n0 ge_a1 Pa1_1) e_1 pd_0 rfl rfl 1 (Nat.le_of_eq rfl) (by decide) (by decide) (by decide) (by decide) at_8 11 rfl ?_
  rintro T h_2 _ L_2 X e_2 ⟨rfl, N_2, K_2, Pa1_2⟩
  have N0 := Fr.app N0 N_2
  have Z_2 : n0 ≤ h_2.size := Nat.le_trans Z_1 K_2.1
  refine o_astore C X at_11 13 rfl rfl #[.val (.long x0), .second, .val (.long x1), .second, .val (.long x2), .second, .val (.long x3), .second, .val (.long x4), .second, .val (.long x5), .second, .val (.ref a1), .unset, .unset, .unset] rfl ?_
  refine o_new C X hZ hown (hw _ (List.mem_of_getElem? (i := 0) rfl)) (hw _ (List.mem_of_getElem? (i := 1) rfl)) (hw _ (List.mem_of_getElem? (i := 2) rfl)) e_2 at_13 (by decide) (by decide) 16 rfl ?_
  intro T h_3 a2 g_a2 X e_3 E_3 A_3 D_3
  have ne_a1_a2 : a1 ≠ a2 := by rw [g_a2]; exact Nat.ne_of_lt Pa1_2.1.lt
  have ge_a2 : n0 ≤ a2 := by rw [g_a2]; exact Z_2
  have Z_3 : n0 ≤ h_3.size := Nat.le_trans Z_2 E_3.1
  have Pa1_3 := Pa1_2.ext E_3
  have Pa2_3 : FP Z h_3 a2 (.long (0 : Int64)) (.long (0 : Int64)) (.long (0 : Int64)) := ⟨A_3, D_3 (Or.inl (hw _ (List.mem_of_getElem? (i := 10) rfl))) (ty := .long) (by decide), D_3 (Or.inl (hw _ (List.mem_of_getElem? (i := 12) rfl))) (ty := .long) (by decide), D_3 (Or.inl (hw _ (List.mem_of_getElem? (i := 14) rfl))) (ty := .long) (by decide)⟩
  refine o_dup C X at_16 17 rfl rfl ?_
  refine o_lload C X at_17 19 rfl rfl ?_
  refine o_lload C X at_19 21 rfl rfl ?_
  refine o_lload C X at_21 23 rfl rfl ?_
  refine o_callI C X hZ (by rw [hml]; rfl) (own := "com/example/fenceline/fenceline/FootprintSubtractPinLaw") (y := (⟨"com/example/fenceline/fenceline/ClosedArenas$Footprint", "<init>", "(JJJ)V"⟩ : MethodName)) hown rfl (hw _ (List.mem_of_getElem? (i := 3) rfl)) (hw _ (List.mem_of_getElem? (i := 4) rfl)) (hw _ (List.mem_of_getElem? (i := 2) rfl)) (hw _ (List.mem_of_getElem? (i := 5) rfl)) (by decide) (asL := [(.long x3), (.long x4), (.long x5)]) (a := a2) (rm1 l Z a0 hw a2 x3 x4 x5 h_3 n0 ge_a2 Pa2_3) e_3 pd_0 rfl rfl 1 (Nat.le_of_eq rfl) (by decide) (by decide) (by decide) (by decide) at_23 26 rfl ?_
  rintro T h_4 _ L_4 X e_4 ⟨rfl, N_4, K_4, Pa2_4⟩
  have N0 := Fr.app N0 N_4
  have Pa1_4 := Pa1_3.keep K_4 (ninS ne_a1_a2 nin0)
  have Z_4 : n0 ≤ h_4.size := Nat.le_trans Z_3 K_4.1
  refine o_astore C X at_26 28 rfl rfl #[.val (.long x0), .second, .val (.long x1), .second, .val (.long x2), .second, .val (.long x3), .second, .val (.long x4), .second, .val (.long x5), .second, .val (.ref a1), .val (.ref a2), .unset, .unset] rfl ?_
  refine o_aload C X at_28 30 rfl rfl rfl ?_
  refine o_aload C X at_30 32 rfl rfl rfl ?_
  refine o_callV C X hZ (by rw [hml]; rfl) (own := "com/example/fenceline/fenceline/FootprintSubtractPinLaw") (y := (⟨"com/example/fenceline/fenceline/ClosedArenas$Footprint", "subtract", "(Lcom/example/fenceline/fenceline/ClosedArenas$Footprint;)V"⟩ : MethodName)) hown (hw _ (List.mem_of_getElem? (i := 15) rfl)) (hw _ (List.mem_of_getElem? (i := 16) rfl)) (hw _ (List.mem_of_getElem? (i := 18) rfl)) (hw _ (List.mem_of_getElem? (i := 17) rfl)) (hw _ (List.mem_of_getElem? (i := 2) rfl)) (hw _ (List.mem_of_getElem? (i := 19) rfl)) (by decide) (asL := [(.ref a2)]) (a := a1) (rm3 l Z a0 hw a1 a2 x0 x1 x2 x3 x4 x5 h_4 n0 ge_a1 ne_a1_a2 Pa1_4 Pa2_4) e_4 Pa1_4.1 pd_1 rfl rfl 0 (Nat.le_of_eq rfl) (by decide) (by decide) (by decide) (by decide) at_32 35 rfl ?_
  rintro T h_5 _ L_5 X e_5 ⟨rfl, N_5, K_5, Pa1_5⟩
  have N0 := Fr.app N0 N_5
  have Pa2_5 := Pa2_4.keep K_5 (ninS (Ne.symm ne_a1_a2) nin0)
  refine o_aload C X at_35 37 rfl rfl rfl ?_
  refine o_callVP C X hZ (by rw [hml]; rfl) (own := "com/example/fenceline/fenceline/FootprintSubtractPinLaw") (y := (⟨"com/example/fenceline/fenceline/ClosedArenas$Footprint", "bytes", "()J"⟩ : MethodName)) (rf := 0) (rl := 0) hown (hw _ (List.mem_of_getElem? (i := 20) rfl)) (hw _ (List.mem_of_getElem? (i := 21) rfl)) (hw _ (List.mem_of_getElem? (i := 23) rfl)) (hw _ (List.mem_of_getElem? (i := 22) rfl)) (hw _ (List.mem_of_getElem? (i := 2) rfl)) (hw _ (List.mem_of_getElem? (i := 24) rfl)) (by decide) (asL := []) (a := a1) (rm4 l Z a0 hw a1 (x0 - x3) (x1 - x4) (x2 - x5) h_5 Pa1_5) e_5 Pa1_5.1 pd_2 rfl rfl 0 (Nat.le_of_eq rfl) (by decide) (by decide) (by decide) (by decide) at_37 40 rfl ?_
  intro T X e_5
  refine o_lload C X at_40 42 rfl rfl ?_
  refine o_ladd C X at_42 43 rfl ?_
  refine o_lloadN C X at_43 44 rfl rfl ?_
  refine o_lcmp C X at_44 45 rfl ?_
  refine o_ifN C X at_45 48 rfl (o_teq (by first | rfl | exact Int64.sub_add_cancel _ _ : ((x0 - x3) + x3) = x0)).2 ?_
  refine o_aload C X at_48 50 rfl rfl rfl ?_
  refine o_callVP C X hZ (by rw [hml]; rfl) (own := "com/example/fenceline/fenceline/FootprintSubtractPinLaw") (y := (⟨"com/example/fenceline/fenceline/ClosedArenas$Footprint", "blocks", "()J"⟩ : MethodName)) (rf := 0) (rl := 0) hown (hw _ (List.mem_of_getElem? (i := 25) rfl)) (hw _ (List.mem_of_getElem? (i := 26) rfl)) (hw _ (List.mem_of_getElem? (i := 28) rfl)) (hw _ (List.mem_of_getElem? (i := 27) rfl)) (hw _ (List.mem_of_getElem? (i := 2) rfl)) (hw _ (List.mem_of_getElem? (i := 29) rfl)) (by decide) (asL := []) (a := a1) (rm5 l Z a0 hw a1 (x0 - x3) (x1 - x4) (x2 - x5) h_5 Pa1_5) e_5 Pa1_5.1 pd_2 rfl rfl 0 (Nat.le_of_eq rfl) (by decide) (by decide) (by decide) (by decide) at_50 53 rfl ?_
  intro T X e_5
  refine o_lload C X at_53 55 rfl rfl ?_
  refine o_ladd C X at_55 56 rfl ?_
  refine o_lloadN C X at_56 57 rfl rfl ?_
  refine o_lcmp C X at_57 58 rfl ?_
  refine o_ifN C X at_58 61 rfl (o_teq (by first | rfl | exact Int64.sub_add_cancel _ _ : ((x1 - x4) + x4) = x1)).2 ?_
  refine o_aload C X at_61 63 rfl rfl rfl ?_
  refine o_callVP C X hZ (by rw [hml]; rfl) (own := "com/example/fenceline/fenceline/FootprintSubtractPinLaw") (y := (⟨"com/example/fenceline/fenceline/ClosedArenas$Footprint", "mappings", "()J"⟩ : MethodName)) (rf := 0) (rl := 0) hown (hw _ (List.mem_of_getElem? (i := 30) rfl)) (hw _ (List.mem_of_getElem? (i := 31) rfl)) (hw _ (List.mem_of_getElem? (i := 33) rfl)) (hw _ (List.mem_of_getElem? (i := 32) rfl)) (hw _ (List.mem_of_getElem? (i := 2) rfl)) (hw _ (List.mem_of_getElem? (i := 34) rfl)) (by decide) (asL := []) (a := a1) (rm6 l Z a0 hw a1 (x0 - x3) (x1 - x4) (x2 - x5) h_5 Pa1_5) e_5 Pa1_5.1 pd_2 rfl rfl 0 (Nat.le_of_eq rfl) (by decide) (by decide) (by decide) (by decide) at_63 66 rfl ?_
  intro T X e_5
  refine o_lload C X at_66 68 rfl rfl ?_
  refine o_ladd C X at_68 69 rfl ?_
  refine o_lload C X at_69 71 rfl rfl ?_
  refine o_lcmp C X at_71 72 rfl ?_
  refine o_ifN C X at_72 75 rfl (o_teq (by first | rfl | exact Int64.sub_add_cancel _ _ : ((x2 - x5) + x5) = x2)).2 ?_
  refine o_iconst C X at_75 76 rfl (1 : Int32) (by decide) ?_
  refine o_goto C X at_76 80 (by decide) (by decide) ?_
  refine o_istore C X at_80 82 rfl #[.val (.long x0), .second, .val (.long x1), .second, .val (.long x2), .second, .val (.long x3), .second, .val (.long x4), .second, .val (.long x5), .second, .val (.ref a1), .val (.ref a2), .val (.int (1 : Int32)), .unset] rfl ?_
  refine o_aload C X at_82 84 rfl rfl rfl ?_
  refine o_callVP C X hZ (by rw [hml]; rfl) (own := "com/example/fenceline/fenceline/FootprintSubtractPinLaw") (y := (⟨"com/example/fenceline/fenceline/ClosedArenas$Footprint", "bytes", "()J"⟩ : MethodName)) (rf := 0) (rl := 0) hown (hw _ (List.mem_of_getElem? (i := 20) rfl)) (hw _ (List.mem_of_getElem? (i := 21) rfl)) (hw _ (List.mem_of_getElem? (i := 23) rfl)) (hw _ (List.mem_of_getElem? (i := 22) rfl)) (hw _ (List.mem_of_getElem? (i := 2) rfl)) (hw _ (List.mem_of_getElem? (i := 24) rfl)) (by decide) (asL := []) (a := a2) (rm4 l Z a0 hw a2 x3 x4 x5 h_5 Pa2_5) e_5 Pa2_5.1 pd_2 rfl rfl 0 (Nat.le_of_eq rfl) (by decide) (by decide) (by decide) (by decide) at_84 87 rfl ?_
  intro T X e_5
  refine o_lload C X at_87 89 rfl rfl ?_
  refine o_lcmp C X at_89 90 rfl ?_
  refine o_ifN C X at_90 93 rfl (o_teq (by first | rfl | exact Int64.sub_add_cancel _ _ : x3 = x3)).2 ?_
  refine o_aload C X at_93 95 rfl rfl rfl ?_
  refine o_callVP C X hZ (by rw [hml]; rfl) (own := "com/example/fenceline/fenceline/FootprintSubtractPinLaw") (y := (⟨"com/example/fenceline/fenceline/ClosedArenas$Footprint", "blocks", "()J"⟩ : MethodName)) (rf := 0) (rl := 0) hown (hw _ (List.mem_of_getElem? (i := 25) rfl)) (hw _ (List.mem_of_getElem? (i := 26) rfl)) (hw _ (List.mem_of_getElem? (i := 28) rfl)) (hw _ (List.mem_of_getElem? (i := 27) rfl)) (hw _ (List.mem_of_getElem? (i := 2) rfl)) (hw _ (List.mem_of_getElem? (i := 29) rfl)) (by decide) (asL := []) (a := a2) (rm5 l Z a0 hw a2 x3 x4 x5 h_5 Pa2_5) e_5 Pa2_5.1 pd_2 rfl rfl 0 (Nat.le_of_eq rfl) (by decide) (by decide) (by decide) (by decide) at_95 98 rfl ?_
  intro T X e_5
  refine o_lload C X at_98 100 rfl rfl ?_
  refine o_lcmp C X at_100 101 rfl ?_
  refine o_ifN C X at_101 104 rfl (o_teq (by first | rfl | exact Int64.sub_add_cancel _ _ : x4 = x4)).2 ?_
  refine o_aload C X at_104 106 rfl rfl rfl ?_
  refine o_callVP C X hZ (by rw [hml]; rfl) (own := "com/example/fenceline/fenceline/FootprintSubtractPinLaw") (y := (⟨"com/example/fenceline/fenceline/ClosedArenas$Footprint", "mappings", "()J"⟩ : MethodName)) (rf := 0) (rl := 0) hown (hw _ (List.mem_of_getElem? (i := 30) rfl)) (hw _ (List.mem_of_getElem? (i := 31) rfl)) (hw _ (List.mem_of_getElem? (i := 33) rfl)) (hw _ (List.mem_of_getElem? (i := 32) rfl)) (hw _ (List.mem_of_getElem? (i := 2) rfl)) (hw _ (List.mem_of_getElem? (i := 34) rfl)) (by decide) (asL := []) (a := a2) (rm6 l Z a0 hw a2 x3 x4 x5 h_5 Pa2_5) e_5 Pa2_5.1 pd_2 rfl rfl 0 (Nat.le_of_eq rfl) (by decide) (by decide) (by decide) (by decide) at_106 109 rfl ?_
  intro T X e_5
  refine o_lload C X at_109 111 rfl rfl ?_
  refine o_lcmp C X at_111 112 rfl ?_
  refine o_ifN C X at_112 115 rfl (o_teq (by first | rfl | exact Int64.sub_add_cancel _ _ : x5 = x5)).2 ?_
  refine o_iconst C X at_115 116 rfl (1 : Int32) (by decide) ?_
  refine o_goto C X at_116 120 (by decide) (by decide) ?_
  refine o_istore C X at_120 122 rfl #[.val (.long x0), .second, .val (.long x1), .second, .val (.long x2), .second, .val (.long x3), .second, .val (.long x4), .second, .val (.long x5), .second, .val (.ref a1), .val (.ref a2), .val (.int (1 : Int32)), .val (.int (1 : Int32))] rfl ?_
  refine o_iload C X at_122 124 rfl rfl ?_
  refine o_ifN C X at_124 127 rfl ((if0 _ _).trans (feq (by decide : ¬ ((1 : Int32) = (0 : Int32)))).1) ?_
  refine o_iload C X at_127 129 rfl rfl ?_
  refine o_ifN C X at_129 132 rfl ((if0 _ _).trans (feq (by decide : ¬ ((1 : Int32) = (0 : Int32)))).1) ?_
  refine o_iconst C X at_132 133 rfl (1 : Int32) (by decide) ?_
  refine o_goto C X at_133 137 (by decide) (by decide) ?_
  exact o_retN C X hret (by simp) hlk at_137 ⟨congrArg some (congrArg _ (rfl)), N0⟩ (by decide) (by decide)
set_option maxRecDepth 65536 in
set_option maxHeartbeats 40000000 in
theorem comes_1 {Post : Tables → Env → Array Value → State → Outcome → State → Prop} (hpost : ∀ tb e args s v u, (limb_1_1.after args s (.returned v) u = true ∧ limb_1_2.after args s (.returned v) u = true ∧ True) → FrameEnd s (.returned v) u (Jvm.fieldLocs frame_1_writes args s ++ Jvm.arrayLocs frame_1_arrays args s ++ Jvm.staticLocs frame_1_statics s) 16 128 → Post tb e args s (.returned v) u) :
    ArmFor flags0 classFile x code maxLocals ret World_1 tables_1 room_1 Calls_1 rest_1 Pre_1 Post := by
  intro l hfl _ _ p e ha hc hk s m args below hf hA hF happ hP
  obtain ⟨hcalls, hrest, hpre⟩ := hP
  obtain ⟨-, -, -, hnamed, -, -, -, hat⟩ := (Spec.applies_iff hf).mp happ
  obtain ⟨hg, hn⟩ := and_e (Cond.before_iff.mp (show (Jvm.Cond.and given_1 narrow_1).before args s = true from hpre))
  obtain ⟨g0, g1⟩ := and_e hg
  obtain ⟨w0, w1, w2, w3, w4, w5, rfl⟩ : ∃ w0 w1 w2 w3 w4 w5 : Value, args = #[w0, w1, w2, w3, w4, w5] := by
    have hs : args.size = 6 := by simpa [Cond.value, given_1] using g0
    obtain ⟨L⟩ := args
    match L, hs with
    | [w0, w1, w2, w3, w4, w5], _ => exact ⟨w0, w1, w2, w3, w4, w5, rfl⟩
  have hw := fun d (hd : d ∈ tables_1) => atoms_spec (ws := Jvm.Cond.code x code maxLocals ret :: tables_1) hat d (List.mem_cons_of_mem _ hd)
  have hfit : Fit s := fun {y c} hc i hi => by
    obtain ⟨ha, rfl⟩ := Array.getElem?_eq_some_iff.mp hc
    have q := List.all_eq_true.mp ((Array.all_eq_true_iff_forall_mem.mp hF) _ (Array.getElem_mem ha)) i (List.mem_range.mpr hi)
    simpa [Array.getElem?_eq_getElem hi] using q
  obtain ⟨f0, g1⟩ := and_e g1
  obtain ⟨i0, e0⟩ := isL_v f0
  obtain rfl : w0 = (.long i0) := Option.some.inj e0
  obtain ⟨f1, g1⟩ := and_e g1
  obtain ⟨i1, e1⟩ := isL_v f1
  obtain rfl : w1 = (.long i1) := Option.some.inj e1
  obtain ⟨f2, g1⟩ := and_e g1
  obtain ⟨i2, e2⟩ := isL_v f2
  obtain rfl : w2 = (.long i2) := Option.some.inj e2
  obtain ⟨f3, g1⟩ := and_e g1
  obtain ⟨i3, e3⟩ := isL_v f3
  obtain rfl : w3 = (.long i3) := Option.some.inj e3
  obtain ⟨f4, g1⟩ := and_e g1
  obtain ⟨i4, e4⟩ := isL_v f4
  obtain rfl : w4 = (.long i4) := Option.some.inj e4
  have f5 := g1
  obtain ⟨i5, e5⟩ := isL_v f5
  obtain rfl : w5 = (.long i5) := Option.some.inj e5
  obtain ⟨n, o, h1, h2, h3, _, L, rfl, ⟨rfl, N⟩, hq⟩ := rm0 l s _ hw i0 i1 i2 i3 i4 i5 s.heap s.heap.size (Nat.le_refl _) p e ha hc hk s m _ below hf ((Spec.applies_iff_loose hf).mp happ).1 ⟨rfl, State.Warmed39.refl s, rfl⟩ trivial
  exact ⟨n, _, h1, h2, h3, hpost _ _ _ _ _ _ ⟨Cond.after_iff.mpr rfl, Cond.after_iff.mpr (eq_i res_at (Term.int_eval (1)) rfl), trivial⟩ ⟨hq.1, hq.2.1, (hq.2.2.sift fun y hy => Or.inr (N y hy)).mono (by decide) (by decide)⟩⟩
theorem main_1_1 : Claimed_1_1 := comes_1 fun _ _ _ _ _ _ h hF => ⟨h.1, hF⟩
theorem main_1_2 : Claimed_1_2 := comes_1 fun _ _ _ _ _ _ h hF => ⟨h.2.1, hF⟩
end Jvm.Pilot.@@N@@
namespace Jvm.Pilot.@@N@@
open Jvm Jvm.ClassFile Sem Op Lib Jvm.Free Jvm.Stand Jvm.Pilot.@@N@@.Jvm.D
/-! MADE BY PROGRAM (witnessworld.py) out of the Statement's table words and the real class files: 9 classes; the members and pool entries that the words name. The judged class is class 1, her method 1. -/
namespace start1
open Jvm.ClassFile
def u (s : String) : CpInfo := .utf8 (stringToUtf16 s)
/-- a pool by its gaps: so many unusable entries, then the entry; so many at the end -/
def gap : Nat → List CpInfo → List CpInfo
  | 0, r => r
  | n + 1, r => .unusable :: gap n r
def poolList (es : List (Nat × CpInfo)) (last : Nat) : List CpInfo := es.foldr (fun e r => gap e.1 (e.2 :: r)) (gap last [])
def pool (es : List (Nat × CpInfo)) (last : Nat) : Array CpInfo := ⟨poolList es last⟩
def fileOf (pool : Array CpInfo) (this : Nat) (attrs : Array Attribute := #[]) (ms : Array MethodInfo := #[]) (fl : Nat := 33) (sup : Nat := 0) (ifs : Array Nat := #[]) (fds : Array FieldInfo := #[]) : ClassFile where
  minorVersion := 0
  majorVersion := 65
  constantPool := pool
  accessFlags := fl
  thisClass := this
  superClass := sup
  interfaces := ifs
  fields := fds
  methods := ms
  attributes := attrs
def plain (name : String) (sup : Option ClassId) : Class where
  name := name
  kind := .ordinary
  loader := none
  accessFlags := 33
  super := sup
  interfaces := #[]
  cf := none
  fields := #[]
  methods := #[]
  instanceTypes := #[]
  staticTypes := #[]
  resolved := #[]
  callSites := []
  init := .initialized
  statics := none
  mirror := none

def pool0 : Array CpInfo := pool [(5, u "<init>"), (0, u "()V"), (1, .class_ 10), (1, u "java/lang/Object")] 113

def k0c0 : Code := { maxStack := 0, maxLocals := 1, code := object_method_1_code, exceptionTable := #[], attributes := #[] }
def k0m0 : Method := { name := "<init>", desc := "()V", sig := { parameters := [], returnType := none }, accessFlags := 1, code := some k0c0 }
/-- java/lang/Object -/
def k0 : Class := { plain "java/lang/Object" none with
  accessFlags := 33
  interfaces := #[]
  cf := some (fileOf pool0 8 #[] #[{ accessFlags := 1, nameIndex := 5, descriptorIndex := 6, attributes := #[] }] 33 0 #[] #[])
  fields := #[]
  methods := #[k0m0]
  instanceTypes := #[]
  staticTypes := #[]
  resolved := Array.replicate 124 none
  statics := none }

def pool1 : Array CpInfo := pool [(2, .class_ 4), (1, u "java/lang/Object"), (0, u "<init>"), (0, u "()V"), (0, .class_ 8), (0, u "com/example/fenceline/fenceline/ClosedArenas$Footprint"), (0, .methodref 7 10), (0, .nameAndType 5 11), (0, u "(JJJ)V"), (0, .methodref 7 13), (0, .nameAndType 14 15), (0, u "subtract"), (0, u "(Lcom/example/fenceline/fenceline/ClosedArenas$Footprint;)V"), (0, .methodref 7 17), (0, .nameAndType 18 19), (0, u "bytes"), (0, u "()J"), (0, .methodref 7 21), (0, .nameAndType 22 19), (0, u "blocks"), (0, .methodref 7 24), (0, .nameAndType 25 19), (0, u "mappings"), (0, .class_ 27), (0, u "com/example/fenceline/fenceline/FootprintSubtractPinLaw"), (2, u "law"), (0, u "(JJJJJJ)Z")] 7

def k1m0 : Method := { name := "<init>", desc := "()V", sig := { parameters := [], returnType := none }, accessFlags := 2, code := none }
def k1c1 : Code := { maxStack := 8, maxLocals := 16, code := code, exceptionTable := #[], attributes := #[] }
def k1m1 : Method := { name := "law", desc := "(JJJJJJ)Z", sig := { parameters := [.long, .long, .long, .long, .long, .long], returnType := some .boolean }, accessFlags := 9, code := some k1c1 }
/-- com/example/fenceline/fenceline/FootprintSubtractPinLaw -/
def k1 : Class := { plain "com/example/fenceline/fenceline/FootprintSubtractPinLaw" (some 0) with
  accessFlags := 49
  interfaces := #[]
  cf := some (fileOf pool1 26 #[] #[{ accessFlags := 2, nameIndex := 5, descriptorIndex := 6, attributes := #[] }, { accessFlags := 9, nameIndex := 30, descriptorIndex := 31, attributes := #[] }] 49 2 #[] #[])
  fields := #[]
  methods := #[k1m0, k1m1]
  instanceTypes := #[]
  staticTypes := #[]
  resolved := Array.replicate 39 none
  statics := none }

def pool2 : Array CpInfo := pool [(1, .methodref 2 3), (0, .class_ 4), (0, .nameAndType 5 6), (0, u "java/lang/Object"), (0, u "<init>"), (0, u "()V"), (0, .fieldref 8 9), (0, .class_ 10), (0, .nameAndType 11 12), (0, u "com/example/fenceline/fenceline/ClosedArenas$Footprint"), (0, u "bytes"), (0, u "J"), (0, .fieldref 8 14), (0, .nameAndType 15 12), (0, u "blocks"), (0, .fieldref 8 17), (0, .nameAndType 18 12), (0, u "mappings"), (0, u "(JJJ)V"), (2, u "()J"), (1, u "(Lcom/example/fenceline/fenceline/ClosedArenas$Footprint;)V"), (0, u "subtract"), (6, .class_ 33), (0, u "com/example/fenceline/fenceline/ClosedArenas")] 2

def k2c0 : Code := { maxStack := 3, maxLocals := 7, code := prog_12_method_1_code, exceptionTable := #[], attributes := #[] }
def k2m0 : Method := { name := "<init>", desc := "(JJJ)V", sig := { parameters := [.long, .long, .long], returnType := none }, accessFlags := 0, code := some k2c0 }
def k2c1 : Code := { maxStack := 2, maxLocals := 1, code := prog_12_method_2_code, exceptionTable := #[], attributes := #[] }
def k2m1 : Method := { name := "bytes", desc := "()J", sig := { parameters := [], returnType := some .long }, accessFlags := 0, code := some k2c1 }
def k2c2 : Code := { maxStack := 2, maxLocals := 1, code := prog_12_method_3_code, exceptionTable := #[], attributes := #[] }
def k2m2 : Method := { name := "blocks", desc := "()J", sig := { parameters := [], returnType := some .long }, accessFlags := 0, code := some k2c2 }
def k2c3 : Code := { maxStack := 2, maxLocals := 1, code := prog_12_method_4_code, exceptionTable := #[], attributes := #[] }
def k2m3 : Method := { name := "mappings", desc := "()J", sig := { parameters := [], returnType := some .long }, accessFlags := 0, code := some k2c3 }
def k2c4 : Code := { maxStack := 5, maxLocals := 2, code := prog_12_method_6_code, exceptionTable := #[], attributes := #[] }
def k2m4 : Method := { name := "subtract", desc := "(Lcom/example/fenceline/fenceline/ClosedArenas$Footprint;)V", sig := { parameters := [(.object "com/example/fenceline/fenceline/ClosedArenas$Footprint")], returnType := none }, accessFlags := 0, code := some k2c4 }
/-- com/example/fenceline/fenceline/ClosedArenas$Footprint -/
def k2 : Class := { plain "com/example/fenceline/fenceline/ClosedArenas$Footprint" (some 0) with
  accessFlags := 48
  interfaces := #[]
  cf := some (fileOf pool2 8 #[.nestHost 32] #[{ accessFlags := 0, nameIndex := 5, descriptorIndex := 19, attributes := #[] }, { accessFlags := 0, nameIndex := 11, descriptorIndex := 22, attributes := #[] }, { accessFlags := 0, nameIndex := 15, descriptorIndex := 22, attributes := #[] }, { accessFlags := 0, nameIndex := 18, descriptorIndex := 22, attributes := #[] }, { accessFlags := 0, nameIndex := 25, descriptorIndex := 24, attributes := #[] }] 48 2 #[] #[{ accessFlags := 2, nameIndex := 11, descriptorIndex := 12, attributes := #[] }, { accessFlags := 2, nameIndex := 15, descriptorIndex := 12, attributes := #[] }, { accessFlags := 2, nameIndex := 18, descriptorIndex := 12, attributes := #[] }])
  fields := #[{ name := "bytes", type := .long, accessFlags := 2, slot := 0, constantValue := 0 }, { name := "blocks", type := .long, accessFlags := 2, slot := 1, constantValue := 0 }, { name := "mappings", type := .long, accessFlags := 2, slot := 2, constantValue := 0 }]
  methods := #[k2m0, k2m1, k2m2, k2m3, k2m4]
  instanceTypes := #[.long, .long, .long]
  staticTypes := #[]
  resolved := Array.replicate 36 none
  statics := none }

def pool3 : Array CpInfo := pool [(1, u "java/lang/Cloneable"), (0, .class_ 1), (0, u "java/lang/Object"), (0, .class_ 3)] 3

/-- java/lang/Cloneable -/
def k3 : Class := { plain "java/lang/Cloneable" (some 0) with
  accessFlags := 1537
  interfaces := #[]
  cf := some (fileOf pool3 2 #[] #[] 1537 4 #[] #[])
  fields := #[]
  methods := #[]
  instanceTypes := #[]
  staticTypes := #[]
  resolved := Array.replicate 8 none
  statics := none }

def pool4 : Array CpInfo := pool [(1, u "java/io/Serializable"), (0, .class_ 1), (0, u "java/lang/Object"), (0, .class_ 3)] 3

/-- java/io/Serializable -/
def k4 : Class := { plain "java/io/Serializable" (some 0) with
  accessFlags := 1537
  interfaces := #[]
  cf := some (fileOf pool4 2 #[] #[] 1537 4 #[] #[])
  fields := #[]
  methods := #[]
  instanceTypes := #[]
  staticTypes := #[]
  resolved := Array.replicate 8 none
  statics := none }

/-- the primitive byte -/
def k5 : Class := { plain "byte" none with kind := .primitive 'B', accessFlags := 0x411 }
/-- [B -/
def k6 : Class := { plain "[B" (some 0) with kind := .array 5 .byte, interfaces := #[3, 4], accessFlags := 1041 }

/-- the primitive int -/
def k7 : Class := { plain "int" none with kind := .primitive 'I', accessFlags := 0x411 }
/-- [I -/
def k8 : Class := { plain "[I" (some 0) with kind := .array 7 .int, interfaces := #[3, 4], accessFlags := 1041 }

def heap : Heap := #[]
def classes : Array Class := #[k0, k1, k2, k3, k4, k5, k6, k7, k8]
def interned : List (Array UInt16 × Addr) := []
def slotsUsed : Nat := 0
def theMethod : MethodId := ⟨1, 1⟩
def args0 : Array Value := #[.long 3, .long 4, .long 5, .long 6, .long 7, .long 8]
def aboutOver (below : List Frame) : State where
  vm := { classes := classes, interned := interned.toArray }
  heap := heap
  slotsUsed := slotsUsed
  threads := #[{ frames := .invoking theMethod args0 :: below }]
def below0 : List Frame := [.native { method := ⟨0, 0⟩, args := #[] }]
def about1 : State := aboutOver below0
def p0 : Program := .bare "" "" ""
def e0 : Env := launch0.env 0 0 0
theorem w_frames : about1.frames = Frame.invoking theMethod args0 :: below0 := rfl
set_option maxRecDepth 65536 in
theorem w_args : argsFit about1.vm theMethod args0 = true := by decide +kernel
set_option maxRecDepth 65536 in
theorem w_heap : heapFits about1 = true := by decide +kernel
set_option maxRecDepth 65536 in
theorem w_runnable : about1.curStatus? = some .runnable := by decide +kernel
set_option maxRecDepth 65536 in
theorem w_alone : about1.alone = true := by decide +kernel
set_option maxRecDepth 65536 in
theorem w_named : about1.methodNamed? x = some theMethod := by decide +kernel
set_option maxRecDepth 65536 in
theorem w_hears : about1.hears theMethod below0 = true := by decide +kernel
set_option maxRecDepth 65536 in
theorem w_ripe : about1.ripe theMethod args0 below0 = true := by decide +kernel
theorem w_running : about1.status = .running := rfl
set_option maxRecDepth 65536 in
theorem w_room : about1.hasRoom e0.platform room_1 = true :=
  launch0.hasRoom_least _ room_1 (by decide +kernel) (by decide +kernel) (by decide +kernel) (by decide +kernel) (by decide +kernel) (by decide +kernel)
theorem allAtoms_all (ts : List Jvm.Cond) (a : Array Jvm.Value) (st : Jvm.State) : (allAtoms ts).before a st = ts.all (fun c => c.before a st) := by
  induction ts with
  | nil => rfl
  | cons c t ih =>
    show (Jvm.Cond.and c (allAtoms t)).before a st = _
    rw [Jvm.Cond.before_and, ih, List.all_cons]
def words1 : List Jvm.Cond := Jvm.Cond.code x code maxLocals ret :: tables_1
/-- a 'code' word, met by the world's own term for the bytes: nothing is compared byte by byte -/
theorem code_word {y : MethodName} {bytes : ByteArray} {mx : Nat} {rt : Option FieldType} {a : Array Value} {s : State} {m : MethodId} {meth : Method} {c : Code} (h1 : s.methodNamed? y = some m) (h2 : s.vm.method? m = some meth) (h3 : meth.code = some c) (h4 : c.code = bytes)
    (h5 : (c.maxLocals == mx && c.exceptionTable.isEmpty && decide (c.maxStack ≤ mostOperands) && decide (meth.sig.returnType = rt) && !meth.locks && decide (parseMethodDescriptor y.desc = some meth.sig)) = true) : (Jvm.Cond.code y bytes mx rt).before a s = true := by
  simp only [Bool.and_eq_true, beq_iff_eq, Bool.not_eq_true', decide_eq_true_eq] at h5
  obtain ⟨⟨⟨⟨⟨g1, g2⟩, g3⟩, g4⟩, g5⟩, g6⟩ := h5
  simp [Cond.before, Cond.holds, Cond.value, h1, h2, h3, h4, g1, g2, g3, g4, g5, g6]
def isCode : Jvm.Cond → Bool
  | .code _ _ _ _ => true
  | _ => false
theorem all_split {L : List Jvm.Cond} {P : Jvm.Cond → Bool} (h1 : L.all (fun c => isCode c || P c) = true) (h2 : ∀ c ∈ L.filter isCode, P c = true) : L.all P = true := by
  refine List.all_eq_true.mpr fun c hc => ?_
  have h := List.all_eq_true.mp h1 c hc
  rcases Bool.eq_false_or_eq_true (isCode c) with hi | hi
  · exact h2 c (List.mem_filter.mpr ⟨hc, hi⟩)
  · simpa [hi] using h
set_option maxRecDepth 65536 in
theorem w_c0 : (Jvm.Cond.code x code maxLocals ret).before args0 about1 = true := code_word (m := ⟨1, 1⟩) (meth := k1m1) (c := k1c1) (by decide +kernel) rfl rfl rfl (by decide +kernel)
set_option maxRecDepth 65536 in
theorem w_c1 : (Jvm.Cond.code ({ cls := "com/example/fenceline/fenceline/ClosedArenas$Footprint", name := "<init>", desc := "(JJJ)V" } : Jvm.MethodName) prog_12_method_1_code (7 : Nat) (Option.none : Option Jvm.ClassFile.FieldType)).before args0 about1 = true := code_word (m := ⟨2, 0⟩) (meth := k2m0) (c := k2c0) (by decide +kernel) rfl rfl rfl (by decide +kernel)
set_option maxRecDepth 65536 in
theorem w_c2 : (Jvm.Cond.code ({ cls := "java/lang/Object", name := "<init>", desc := "()V" } : Jvm.MethodName) object_method_1_code (1 : Nat) (Option.none : Option Jvm.ClassFile.FieldType)).before args0 about1 = true := code_word (m := ⟨0, 0⟩) (meth := k0m0) (c := k0c0) (by decide +kernel) rfl rfl rfl (by decide +kernel)
set_option maxRecDepth 65536 in
theorem w_c3 : (Jvm.Cond.code ({ cls := "com/example/fenceline/fenceline/ClosedArenas$Footprint", name := "subtract", desc := "(Lcom/example/fenceline/fenceline/ClosedArenas$Footprint;)V" } : Jvm.MethodName) prog_12_method_6_code (2 : Nat) (Option.none : Option Jvm.ClassFile.FieldType)).before args0 about1 = true := code_word (m := ⟨2, 4⟩) (meth := k2m4) (c := k2c4) (by decide +kernel) rfl rfl rfl (by decide +kernel)
set_option maxRecDepth 65536 in
theorem w_c4 : (Jvm.Cond.code ({ cls := "com/example/fenceline/fenceline/ClosedArenas$Footprint", name := "bytes", desc := "()J" } : Jvm.MethodName) prog_12_method_2_code (1 : Nat) (Option.some Jvm.ClassFile.FieldType.long)).before args0 about1 = true := code_word (m := ⟨2, 1⟩) (meth := k2m1) (c := k2c1) (by decide +kernel) rfl rfl rfl (by decide +kernel)
set_option maxRecDepth 65536 in
theorem w_c5 : (Jvm.Cond.code ({ cls := "com/example/fenceline/fenceline/ClosedArenas$Footprint", name := "blocks", desc := "()J" } : Jvm.MethodName) prog_12_method_3_code (1 : Nat) (Option.some Jvm.ClassFile.FieldType.long)).before args0 about1 = true := code_word (m := ⟨2, 2⟩) (meth := k2m2) (c := k2c2) (by decide +kernel) rfl rfl rfl (by decide +kernel)
set_option maxRecDepth 65536 in
theorem w_c6 : (Jvm.Cond.code ({ cls := "com/example/fenceline/fenceline/ClosedArenas$Footprint", name := "mappings", desc := "()J" } : Jvm.MethodName) prog_12_method_4_code (1 : Nat) (Option.some Jvm.ClassFile.FieldType.long)).before args0 about1 = true := code_word (m := ⟨2, 3⟩) (meth := k2m3) (c := k2c3) (by decide +kernel) rfl rfl rfl (by decide +kernel)
def codes1 : List Jvm.Cond := [Jvm.Cond.code x code maxLocals ret, Jvm.Cond.code ({ cls := "com/example/fenceline/fenceline/ClosedArenas$Footprint", name := "<init>", desc := "(JJJ)V" } : Jvm.MethodName) prog_12_method_1_code (7 : Nat) (Option.none : Option Jvm.ClassFile.FieldType), Jvm.Cond.code ({ cls := "java/lang/Object", name := "<init>", desc := "()V" } : Jvm.MethodName) object_method_1_code (1 : Nat) (Option.none : Option Jvm.ClassFile.FieldType), Jvm.Cond.code ({ cls := "com/example/fenceline/fenceline/ClosedArenas$Footprint", name := "subtract", desc := "(Lcom/example/fenceline/fenceline/ClosedArenas$Footprint;)V" } : Jvm.MethodName) prog_12_method_6_code (2 : Nat) (Option.none : Option Jvm.ClassFile.FieldType), Jvm.Cond.code ({ cls := "com/example/fenceline/fenceline/ClosedArenas$Footprint", name := "bytes", desc := "()J" } : Jvm.MethodName) prog_12_method_2_code (1 : Nat) (Option.some Jvm.ClassFile.FieldType.long), Jvm.Cond.code ({ cls := "com/example/fenceline/fenceline/ClosedArenas$Footprint", name := "blocks", desc := "()J" } : Jvm.MethodName) prog_12_method_3_code (1 : Nat) (Option.some Jvm.ClassFile.FieldType.long), Jvm.Cond.code ({ cls := "com/example/fenceline/fenceline/ClosedArenas$Footprint", name := "mappings", desc := "()J" } : Jvm.MethodName) prog_12_method_4_code (1 : Nat) (Option.some Jvm.ClassFile.FieldType.long)]
set_option maxRecDepth 65536 in
theorem codes_eq : words1.filter isCode = codes1 := rfl
theorem w_codes : ∀ c ∈ words1.filter isCode, c.before args0 about1 = true := by
  rw [codes_eq]
  intro c hc
  simp only [codes1, List.mem_cons, List.not_mem_nil, or_false] at hc
  rcases hc with rfl | rfl | rfl | rfl | rfl | rfl | rfl
  · exact w_c0
  · exact w_c1
  · exact w_c2
  · exact w_c3
  · exact w_c4
  · exact w_c5
  · exact w_c6
set_option maxRecDepth 65536 in
theorem w_t1 : (words1.take 24).all (fun c => isCode c || c.before args0 about1) = true := by decide +kernel
set_option maxRecDepth 65536 in
theorem w_t2 : (words1.drop 24).all (fun c => isCode c || c.before args0 about1) = true := by decide +kernel
theorem w_tables : (allAtoms (Jvm.Cond.code x code maxLocals ret :: tables_1)).before args0 about1 = true := by
  rw [allAtoms_all]
  show words1.all (fun c => c.before args0 about1) = true
  refine all_split ?_ w_codes
  rw [← List.take_append_drop 24 words1, List.all_append, w_t1, w_t2]
  rfl
set_option maxRecDepth 65536 in
theorem w_case : (Jvm.Cond.and given_1 narrow_1).before args0 about1 = true := by decide +kernel
theorem w_applies : (headSpec (Jvm.Cond.code x code maxLocals ret :: tables_1) room_1).applies x e0.platform about1 = true :=
  (Spec.applies_iff w_frames).mpr ⟨w_running, w_runnable, w_alone, w_named, w_hears, w_ripe, w_room, w_tables⟩
theorem atStart : AtStart classFile x code maxLocals ret World_1 tables_1 room_1 Calls_1 rest_1 Pre_1 launch0 p0 e0 about1 theMethod args0 below0 :=
  ⟨lists_1, trivial, launch0.admits_env _ _ _, launch0.least_env, fairChoices_fair.cas, fairChoices_fair.clock, w_frames, w_args, w_heap, w_applies, trivial, trivial, w_case⟩
end start1
theorem witness_1 : WitnessClaimed_1 := ⟨start1.p0, start1.e0, start1.about1, start1.theMethod, start1.args0, start1.below0, start1.atStart⟩
end Jvm.Pilot.@@N@@
