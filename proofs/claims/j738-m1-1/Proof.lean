import JvmDerived
import JvmDerived.Pilot.@@N@@Statement
import JvmDerived.Pilot.@@N@@Code
set_option linter.unusedVariables false
set_option linter.unusedSimpArgs false
namespace Jvm.Pilot.@@N@@
open Jvm Jvm.ClassFile Sem Op Lib Jvm.Free Jvm.Stand Jvm.LawKit Jvm.RoadKit Bundle Jvm.Pilot.@@N@@.Jvm.D
/-- Java's x >>> y -/
def ushr (x y : Int32) : Int32 := (x.toUInt32 >>> (y &&& 31).toUInt32).toInt32
def ushrL (x : Int64) (y : Int32) : Int64 := (x.toUInt64 >>> (y &&& 0x3f).toInt64.toUInt64).toInt64
/-- what lcmp pushes -/
abbrev cmpL (x y : Int64) : Int32 := lcmpW x y
section Own
variable {p : Program} {l : Launch} {e : Env} {R : Room} {s : State} {m : MethodId} {args : Array Value} {below : List Frame} {meth : Method} {c : Code} {T : State} {locs : List Loc} {cells slots : Nat} {Z : State} {a0 : Array Value} {h : Heap} {Q : Option Value → Heap → List Loc → Prop} {K N pc : Nat} {Ls : Array Slot} {code : ByteArray} {rest : List Value}
/-- the run from here ends: the method returns, Q says what and over which heap -/
def Ends (p : Program) (e : Env) (below : List Frame) (s : State) (Q : Option Value → Heap → List Loc → Prop) (K N : Nat) (T : State) : Prop :=
  ∃ s₂ o, Steps p.tables e below T s₂ ∧ s₂.status = .running ∧ Ended s₂ below o ∧ ∃ v L, o = .returned v ∧ Q v s₂.heap L ∧ FrameEnd s o s₂ L K N
theorem Ends.step {T T' : State} (st : ∀ t, Steps p.tables e below T' t → Steps p.tables e below T t) (h : Ends p e below s Q K N T') : Ends p e below s Q K N T := by
  obtain ⟨s2, o, h1, h2⟩ := h
  exact ⟨s2, o, st _ h1, h2⟩
def Cx (p : Program) (c : Code) (code : ByteArray) : Prop := p.tables.exec = Jvm.exec ∧ c.code = code
/-- a method's contract -/
def Con (l : Launch) (Z : State) (y : MethodName) (bytes : ByteArray) (maxL : Nat) (ret : Option FieldType) (rm : Room) (K N : Nat) (ws : List Jvm.Cond) (as' : Array Value) (h : Heap) (Q : Option Value → Heap → List Loc → Prop) : Prop :=
  MetFree l y (head1 (Jvm.Cond.code y bytes maxL ret :: ws) rm) (fun a U => a = as' ∧ Z.Warmed39 U.vm ∧ U.heap = h) (fun _ _ _ _ _ => True) (fun _ U o U' => ∃ v L, o = .returned v ∧ Q v U'.heap L ∧ FrameEnd U o U' L K N)
theorem Con.of {y : MethodName} {bytes : ByteArray} {maxL : Nat} {ret : Option FieldType} {rm : Room} {ws : List Jvm.Cond} {as' : Array Value} (hn : plainFor y = true)
    (body : ∀ (p : Program) (e : Env) (s : State) (m : MethodId) (below : List Frame) (meth : Method) (c : Code) (T : State), Cx p c bytes → Z.Warmed39 s.vm → c.maxLocals = maxL → s.vm.findClass y.cls = some m.cls → meth.sig.returnType = ret → meth.name = y.name → meth.locks = false →
      Stand p l e rm s m as' below meth c T [] 0 0 → T.heap = h → Ends p e below s Q K N (T.setTop (entryFrame m as' maxL))) : Con l Z y bytes maxL ret rm K N ws as' h Q := by
  refine MetFree.of_bodySF hn hisR ?_
  intro p e s m args below meth c s₁ Bd hml0 hP hK
  obtain ⟨rfl, hZ, hh⟩ := hP
  exact body p e s m below meth c s₁ ⟨Bd.exec, Bd.bytes⟩ hZ hml0 (findClass_of_methodNamed Bd.named) Bd.returns (name_of_methodNamed Bd.named Bd.method).1 Bd.notSynchronized (Stand.of_body Bd) (by rw [← hh, Bd.state]; rfl)
theorem o_iadd (C : Cx p c code) (X : Stand p l e R s m args below meth c T locs cells slots) {x y : Int32} (hd : decode code pc = .ok (.iadd, 1)) (q : Nat) (hq : pc + 1 = q) (k : Ends p e below s Q K N (T.setTop (mkF m q Ls (.int (x + y) :: rest)))) : Ends p e below s Q K N (T.setTop (mkF m pc Ls (.int y :: .int x :: rest))) := by
  subst hq
  exact .step (fun _ t => XS.iadd X.here C.1 rfl (hb C.2 hd) rfl t) k
theorem o_isub (C : Cx p c code) (X : Stand p l e R s m args below meth c T locs cells slots) {x y : Int32} (hd : decode code pc = .ok (.isub, 1)) (q : Nat) (hq : pc + 1 = q) (k : Ends p e below s Q K N (T.setTop (mkF m q Ls (.int (x - y) :: rest)))) : Ends p e below s Q K N (T.setTop (mkF m pc Ls (.int y :: .int x :: rest))) := by
  subst hq
  exact .step (fun _ t => XS.isub X.here C.1 rfl (hb C.2 hd) rfl t) k
theorem o_imul (C : Cx p c code) (X : Stand p l e R s m args below meth c T locs cells slots) {x y : Int32} (hd : decode code pc = .ok (.imul, 1)) (q : Nat) (hq : pc + 1 = q) (k : Ends p e below s Q K N (T.setTop (mkF m q Ls (.int (x * y) :: rest)))) : Ends p e below s Q K N (T.setTop (mkF m pc Ls (.int y :: .int x :: rest))) := by
  subst hq
  exact .step (fun _ t => XS.imul X.here C.1 rfl (hb C.2 hd) rfl t) k
theorem o_iand (C : Cx p c code) (X : Stand p l e R s m args below meth c T locs cells slots) {x y : Int32} (hd : decode code pc = .ok (.iand, 1)) (q : Nat) (hq : pc + 1 = q) (k : Ends p e below s Q K N (T.setTop (mkF m q Ls (.int (x &&& y) :: rest)))) : Ends p e below s Q K N (T.setTop (mkF m pc Ls (.int y :: .int x :: rest))) := by
  subst hq
  exact .step (fun _ t => XS.iand X.here C.1 rfl (hb C.2 hd) rfl t) k
theorem o_ior (C : Cx p c code) (X : Stand p l e R s m args below meth c T locs cells slots) {x y : Int32} (hd : decode code pc = .ok (.ior, 1)) (q : Nat) (hq : pc + 1 = q) (k : Ends p e below s Q K N (T.setTop (mkF m q Ls (.int (x ||| y) :: rest)))) : Ends p e below s Q K N (T.setTop (mkF m pc Ls (.int y :: .int x :: rest))) := by
  subst hq
  exact .step (fun _ t => XS.ior X.here C.1 rfl (hb C.2 hd) rfl t) k
theorem o_ixor (C : Cx p c code) (X : Stand p l e R s m args below meth c T locs cells slots) {x y : Int32} (hd : decode code pc = .ok (.ixor, 1)) (q : Nat) (hq : pc + 1 = q) (k : Ends p e below s Q K N (T.setTop (mkF m q Ls (.int (x ^^^ y) :: rest)))) : Ends p e below s Q K N (T.setTop (mkF m pc Ls (.int y :: .int x :: rest))) := by
  subst hq
  exact .step (fun _ t => XS.ixor X.here C.1 rfl (hb C.2 hd) rfl t) k
theorem o_ishl (C : Cx p c code) (X : Stand p l e R s m args below meth c T locs cells slots) {x y : Int32} (hd : decode code pc = .ok (.ishl, 1)) (q : Nat) (hq : pc + 1 = q) (k : Ends p e below s Q K N (T.setTop (mkF m q Ls (.int (x <<< (y &&& 31)) :: rest)))) : Ends p e below s Q K N (T.setTop (mkF m pc Ls (.int y :: .int x :: rest))) := by
  subst hq
  exact .step (fun _ t => XS.ishl X.here C.1 rfl (hb C.2 hd) rfl t) k
theorem o_ishr (C : Cx p c code) (X : Stand p l e R s m args below meth c T locs cells slots) {x y : Int32} (hd : decode code pc = .ok (.ishr, 1)) (q : Nat) (hq : pc + 1 = q) (k : Ends p e below s Q K N (T.setTop (mkF m q Ls (.int (x >>> (y &&& 31)) :: rest)))) : Ends p e below s Q K N (T.setTop (mkF m pc Ls (.int y :: .int x :: rest))) := by
  subst hq
  exact .step (fun _ t => XS.ishr X.here C.1 rfl (hb C.2 hd) rfl t) k
theorem o_iushr (C : Cx p c code) (X : Stand p l e R s m args below meth c T locs cells slots) {x y : Int32} (hd : decode code pc = .ok (.iushr, 1)) (q : Nat) (hq : pc + 1 = q) (k : Ends p e below s Q K N (T.setTop (mkF m q Ls (.int (ushr x y) :: rest)))) : Ends p e below s Q K N (T.setTop (mkF m pc Ls (.int y :: .int x :: rest))) := by
  subst hq
  exact .step (fun _ t => XS.iushr X.here C.1 rfl (hb C.2 hd) rfl t) k
theorem o_irem (C : Cx p c code) (X : Stand p l e R s m args below meth c T locs cells slots) {x y : Int32} (hd : decode code pc = .ok (.irem, 1)) (q : Nat) (hq : pc + 1 = q) (hy : y ≠ 0) (k : Ends p e below s Q K N (T.setTop (mkF m q Ls (.int (x % y) :: rest)))) : Ends p e below s Q K N (T.setTop (mkF m pc Ls (.int y :: .int x :: rest))) := by
  subst hq
  exact .step (fun _ t => iremM X C.1 rfl (hb C.2 hd) rfl hy t) k
theorem o_idiv (C : Cx p c code) (X : Stand p l e R s m args below meth c T locs cells slots) {x y : Int32} (hd : decode code pc = .ok (.idiv, 1)) (q : Nat) (hq : pc + 1 = q) (hy : y ≠ 0) (k : Ends p e below s Q K N (T.setTop (mkF m q Ls (.int (x / y) :: rest)))) : Ends p e below s Q K N (T.setTop (mkF m pc Ls (.int y :: .int x :: rest))) := by
  subst hq
  exact .step (fun _ t => XS.idiv X.here C.1 rfl (hb C.2 hd) rfl hy t) k
theorem o_ladd (C : Cx p c code) (X : Stand p l e R s m args below meth c T locs cells slots) {x y : Int64} (hd : decode code pc = .ok (.ladd, 1)) (q : Nat) (hq : pc + 1 = q) (k : Ends p e below s Q K N (T.setTop (mkF m q Ls (.long (x + y) :: rest)))) : Ends p e below s Q K N (T.setTop (mkF m pc Ls (.long y :: .long x :: rest))) := by
  subst hq
  exact .step (fun _ t => XS.ladd X.here C.1 rfl (hb C.2 hd) rfl t) k
theorem o_lsub (C : Cx p c code) (X : Stand p l e R s m args below meth c T locs cells slots) {x y : Int64} (hd : decode code pc = .ok (.lsub, 1)) (q : Nat) (hq : pc + 1 = q) (k : Ends p e below s Q K N (T.setTop (mkF m q Ls (.long (x - y) :: rest)))) : Ends p e below s Q K N (T.setTop (mkF m pc Ls (.long y :: .long x :: rest))) := by
  subst hq
  exact .step (fun _ t => XS.lsub X.here C.1 rfl (hb C.2 hd) rfl t) k
theorem o_land (C : Cx p c code) (X : Stand p l e R s m args below meth c T locs cells slots) {x y : Int64} (hd : decode code pc = .ok (.land, 1)) (q : Nat) (hq : pc + 1 = q) (k : Ends p e below s Q K N (T.setTop (mkF m q Ls (.long (x &&& y) :: rest)))) : Ends p e below s Q K N (T.setTop (mkF m pc Ls (.long y :: .long x :: rest))) := by
  subst hq
  exact .step (fun _ t => XS.land X.here C.1 rfl (hb C.2 hd) rfl t) k
theorem o_lor (C : Cx p c code) (X : Stand p l e R s m args below meth c T locs cells slots) {x y : Int64} (hd : decode code pc = .ok (.lor, 1)) (q : Nat) (hq : pc + 1 = q) (k : Ends p e below s Q K N (T.setTop (mkF m q Ls (.long (x ||| y) :: rest)))) : Ends p e below s Q K N (T.setTop (mkF m pc Ls (.long y :: .long x :: rest))) := by
  subst hq
  exact .step (fun _ t => XS.lor X.here C.1 rfl (hb C.2 hd) rfl t) k
theorem o_lxor (C : Cx p c code) (X : Stand p l e R s m args below meth c T locs cells slots) {x y : Int64} (hd : decode code pc = .ok (.lxor, 1)) (q : Nat) (hq : pc + 1 = q) (k : Ends p e below s Q K N (T.setTop (mkF m q Ls (.long (x ^^^ y) :: rest)))) : Ends p e below s Q K N (T.setTop (mkF m pc Ls (.long y :: .long x :: rest))) := by
  subst hq
  exact .step (fun _ t => XS.lxor X.here C.1 rfl (hb C.2 hd) rfl t) k
theorem o_lushr (C : Cx p c code) (X : Stand p l e R s m args below meth c T locs cells slots) {x : Int64} {y : Int32} (hd : decode code pc = .ok (.lushr, 1)) (q : Nat) (hq : pc + 1 = q) (k : Ends p e below s Q K N (T.setTop (mkF m q Ls (.long (ushrL x y) :: rest)))) : Ends p e below s Q K N (T.setTop (mkF m pc Ls (.int y :: .long x :: rest))) := by
  subst hq
  exact .step (fun _ t => XS.lushr X.here C.1 rfl (hb C.2 hd) rfl t) k
theorem o_lcmp (C : Cx p c code) (X : Stand p l e R s m args below meth c T locs cells slots) {x y : Int64} (hd : decode code pc = .ok (.lcmp, 1)) (q : Nat) (hq : pc + 1 = q) (k : Ends p e below s Q K N (T.setTop (mkF m q Ls (.int (cmpL x y) :: rest)))) : Ends p e below s Q K N (T.setTop (mkF m pc Ls (.long y :: .long x :: rest))) := by
  subst hq
  exact .step (fun _ t => XS.lcmp X.here C.1 rfl (hb C.2 hd) rfl t) k
theorem o_i2l (C : Cx p c code) (X : Stand p l e R s m args below meth c T locs cells slots) {x : Int32} (hd : decode code pc = .ok (.i2l, 1)) (q : Nat) (hq : pc + 1 = q) (k : Ends p e below s Q K N (T.setTop (mkF m q Ls (.long x.toInt64 :: rest)))) : Ends p e below s Q K N (T.setTop (mkF m pc Ls (.int x :: rest))) := by
  subst hq
  exact .step (fun _ t => XS.i2l X.here C.1 rfl (hb C.2 hd) rfl t) k
theorem o_l2i (C : Cx p c code) (X : Stand p l e R s m args below meth c T locs cells slots) {x : Int64} (hd : decode code pc = .ok (.l2i, 1)) (q : Nat) (hq : pc + 1 = q) (k : Ends p e below s Q K N (T.setTop (mkF m q Ls (.int x.toInt32 :: rest)))) : Ends p e below s Q K N (T.setTop (mkF m pc Ls (.long x :: rest))) := by
  subst hq
  exact .step (fun _ t => XS.l2i X.here C.1 rfl (hb C.2 hd) rfl t) k
theorem o_i2b (C : Cx p c code) (X : Stand p l e R s m args below meth c T locs cells slots) {x : Int32} (hd : decode code pc = .ok (.i2b, 1)) (q : Nat) (hq : pc + 1 = q) (k : Ends p e below s Q K N (T.setTop (mkF m q Ls (.int x.toInt8.toInt32 :: rest)))) : Ends p e below s Q K N (T.setTop (mkF m pc Ls (.int x :: rest))) := by
  subst hq
  exact .step (fun _ t => XS.i2b X.here C.1 rfl (hb C.2 hd) rfl t) k
theorem o_i2c (C : Cx p c code) (X : Stand p l e R s m args below meth c T locs cells slots) {x : Int32} (hd : decode code pc = .ok (.i2c, 1)) (q : Nat) (hq : pc + 1 = q) (k : Ends p e below s Q K N (T.setTop (mkF m q Ls (.int x.toUInt32.toUInt16.toUInt32.toInt32 :: rest)))) : Ends p e below s Q K N (T.setTop (mkF m pc Ls (.int x :: rest))) := by
  subst hq
  exact .step (fun _ t => XS.i2c X.here C.1 rfl (hb C.2 hd) rfl t) k
theorem o_iconst (C : Cx p c code) (X : Stand p l e R s m args below meth c T locs cells slots) {i : Int} (hd : decode code pc = .ok (.iconst i, 1)) (q : Nat) (hq : pc + 1 = q) (v : Int32) (hv : Int32.ofInt i = v) (k : Ends p e below s Q K N (T.setTop (mkF m q Ls (.int v :: rest)))) : Ends p e below s Q K N (T.setTop (mkF m pc Ls rest)) := by
  subst hq
  exact .step (fun _ t => XS.iconst X.here C.1 rfl (hb C.2 hd) (by rw [hv]; exact t)) k
theorem o_bipush (C : Cx p c code) (X : Stand p l e R s m args below meth c T locs cells slots) {i : Int} (hd : decode code pc = .ok (.bipush i, 2)) (q : Nat) (hq : pc + 2 = q) (v : Int32) (hv : (Int8.ofInt i).toInt32 = v) (k : Ends p e below s Q K N (T.setTop (mkF m q Ls (.int v :: rest)))) : Ends p e below s Q K N (T.setTop (mkF m pc Ls rest)) := by
  subst hq
  exact .step (fun _ t => XS.bipush X.here C.1 rfl (hb C.2 hd) (by rw [hv]; exact t)) k
theorem o_sipush (C : Cx p c code) (X : Stand p l e R s m args below meth c T locs cells slots) {i : Int} (hd : decode code pc = .ok (.sipush i, 3)) (q : Nat) (hq : pc + 3 = q) (v : Int32) (hv : (Int16.ofInt i).toInt32 = v) (k : Ends p e below s Q K N (T.setTop (mkF m q Ls (.int v :: rest)))) : Ends p e below s Q K N (T.setTop (mkF m pc Ls rest)) := by
  subst hq
  exact .step (fun _ t => XS.sipush X.here C.1 rfl (hb C.2 hd) (by rw [hv]; exact t)) k
theorem o_lconst (C : Cx p c code) (X : Stand p l e R s m args below meth c T locs cells slots) {i : Fin 2} (hd : decode code pc = .ok (.lconst i, 1)) (q : Nat) (hq : pc + 1 = q) (v : Int64) (hv : Int64.ofNat i = v) (k : Ends p e below s Q K N (T.setTop (mkF m q Ls (.long v :: rest)))) : Ends p e below s Q K N (T.setTop (mkF m pc Ls rest)) := by
  subst hq
  exact .step (fun _ t => XS.lconst X.here C.1 rfl (hb C.2 hd) (by rw [hv]; exact t)) k
theorem o_aconst_null (C : Cx p c code) (X : Stand p l e R s m args below meth c T locs cells slots) (hd : decode code pc = .ok (.aconst_null, 1)) (q : Nat) (hq : pc + 1 = q) (k : Ends p e below s Q K N (T.setTop (mkF m q Ls (.null :: rest)))) : Ends p e below s Q K N (T.setTop (mkF m pc Ls rest)) := by
  subst hq
  exact .step (fun _ t => XS.aconstNull X.here C.1 rfl (hb C.2 hd) t) k
theorem o_dup (C : Cx p c code) (X : Stand p l e R s m args below meth c T locs cells slots) {x : Value} (hd : decode code pc = .ok (.dup, 1)) (q : Nat) (hq : pc + 1 = q) (hc : x.category = 1) (k : Ends p e below s Q K N (T.setTop (mkF m q Ls (x :: x :: rest)))) : Ends p e below s Q K N (T.setTop (mkF m pc Ls (x :: rest))) := by
  subst hq
  exact .step (fun _ t => XS.dup X.here C.1 rfl (hb C.2 hd) rfl hc t) k
theorem o_dup_x1 (C : Cx p c code) (X : Stand p l e R s m args below meth c T locs cells slots) {x y : Value} (hd : decode code pc = .ok (.dup_x1, 1)) (q : Nat) (hq : pc + 1 = q) (hc : x.category = 1) (hc' : y.category = 1) (k : Ends p e below s Q K N (T.setTop (mkF m q Ls (x :: y :: x :: rest)))) : Ends p e below s Q K N (T.setTop (mkF m pc Ls (x :: y :: rest))) := by
  subst hq
  exact .step (fun _ t => XS.dupX1 X.here C.1 rfl (hb C.2 hd) rfl hc hc' t) k
theorem o_pop (C : Cx p c code) (X : Stand p l e R s m args below meth c T locs cells slots) {x : Value} (hd : decode code pc = .ok (.pop, 1)) (q : Nat) (hq : pc + 1 = q) (hc : x.category = 1) (k : Ends p e below s Q K N (T.setTop (mkF m q Ls rest))) : Ends p e below s Q K N (T.setTop (mkF m pc Ls (x :: rest))) := by
  subst hq
  exact .step (fun _ t => XS.pop X.here C.1 rfl (hb C.2 hd) rfl hc t) k
theorem o_iloadN (C : Cx p c code) (X : Stand p l e R s m args below meth c T locs cells slots) {i : Fin 4} {v : Int32} (hd : decode code pc = .ok (.iload_n i, 1)) (q : Nat) (hq : pc + 1 = q) (hl : Ls[i.val]? = some (.val (.int v))) (k : Ends p e below s Q K N (T.setTop (mkF m q Ls (.int v :: rest)))) : Ends p e below s Q K N (T.setTop (mkF m pc Ls rest)) := by
  subst hq
  exact .step (fun _ t => XS.iloadN X.here C.1 rfl (hb C.2 hd) hl t) k
theorem o_iload (C : Cx p c code) (X : Stand p l e R s m args below meth c T locs cells slots) {i : Nat} {v : Int32} (hd : decode code pc = .ok (.iload i, 2)) (q : Nat) (hq : pc + 2 = q) (hl : Ls[i]? = some (.val (.int v))) (k : Ends p e below s Q K N (T.setTop (mkF m q Ls (.int v :: rest)))) : Ends p e below s Q K N (T.setTop (mkF m pc Ls rest)) := by
  subst hq
  exact .step (fun _ t => XS.iload X.here C.1 rfl (hb C.2 hd) hl t) k
theorem o_lloadN (C : Cx p c code) (X : Stand p l e R s m args below meth c T locs cells slots) {i : Fin 4} {v : Int64} (hd : decode code pc = .ok (.lload_n i, 1)) (q : Nat) (hq : pc + 1 = q) (hl : Ls[i.val]? = some (.val (.long v))) (k : Ends p e below s Q K N (T.setTop (mkF m q Ls (.long v :: rest)))) : Ends p e below s Q K N (T.setTop (mkF m pc Ls rest)) := by
  subst hq
  exact .step (fun _ t => XS.lloadN X.here C.1 rfl (hb C.2 hd) hl t) k
theorem o_lload (C : Cx p c code) (X : Stand p l e R s m args below meth c T locs cells slots) {i : Nat} {v : Int64} (hd : decode code pc = .ok (.lload i, 2)) (q : Nat) (hq : pc + 2 = q) (hl : Ls[i]? = some (.val (.long v))) (k : Ends p e below s Q K N (T.setTop (mkF m q Ls (.long v :: rest)))) : Ends p e below s Q K N (T.setTop (mkF m pc Ls rest)) := by
  subst hq
  exact .step (fun _ t => XS.lload X.here C.1 rfl (hb C.2 hd) hl t) k
theorem o_aloadN (C : Cx p c code) (X : Stand p l e R s m args below meth c T locs cells slots) {i : Fin 4} {v : Value} (hd : decode code pc = .ok (.aload_n i, 1)) (q : Nat) (hq : pc + 1 = q) (hl : Ls[i.val]? = some (.val v)) (hv : v.isRef = true) (k : Ends p e below s Q K N (T.setTop (mkF m q Ls (v :: rest)))) : Ends p e below s Q K N (T.setTop (mkF m pc Ls rest)) := by
  subst hq
  exact .step (fun _ t => XS.aloadN X.here C.1 rfl (hb C.2 hd) hl hv t) k
theorem o_aload (C : Cx p c code) (X : Stand p l e R s m args below meth c T locs cells slots) {i : Nat} {v : Value} (hd : decode code pc = .ok (.aload i, 2)) (q : Nat) (hq : pc + 2 = q) (hl : Ls[i]? = some (.val v)) (hv : v.isRef = true) (k : Ends p e below s Q K N (T.setTop (mkF m q Ls (v :: rest)))) : Ends p e below s Q K N (T.setTop (mkF m pc Ls rest)) := by
  subst hq
  exact .step (fun _ t => XS.aload X.here C.1 rfl (hb C.2 hd) hl hv t) k
theorem o_istoreN (C : Cx p c code) (X : Stand p l e R s m args below meth c T locs cells slots) {i : Fin 4} {x : Int32} (hd : decode code pc = .ok (.istore_n i, 1)) (q : Nat) (hq : pc + 1 = q) (l' : Array Slot) (hl : storeLocals Ls i.val (.int x) = some l') (k : Ends p e below s Q K N (T.setTop (mkF m q l' rest))) : Ends p e below s Q K N (T.setTop (mkF m pc Ls (.int x :: rest))) := by
  subst hq
  exact .step (fun _ t => XS.istoreN X.here C.1 rfl (hb C.2 hd) rfl hl t) k
theorem o_istore (C : Cx p c code) (X : Stand p l e R s m args below meth c T locs cells slots) {i : Nat} {x : Int32} (hd : decode code pc = .ok (.istore i, 2)) (q : Nat) (hq : pc + 2 = q) (l' : Array Slot) (hl : storeLocals Ls i (.int x) = some l') (k : Ends p e below s Q K N (T.setTop (mkF m q l' rest))) : Ends p e below s Q K N (T.setTop (mkF m pc Ls (.int x :: rest))) := by
  subst hq
  exact .step (fun _ t => XS.istore X.here C.1 rfl (hb C.2 hd) rfl hl t) k
theorem o_lstoreN (C : Cx p c code) (X : Stand p l e R s m args below meth c T locs cells slots) {i : Fin 4} {x : Int64} (hd : decode code pc = .ok (.lstore_n i, 1)) (q : Nat) (hq : pc + 1 = q) (l' : Array Slot) (hl : storeLocals Ls i.val (.long x) = some l') (k : Ends p e below s Q K N (T.setTop (mkF m q l' rest))) : Ends p e below s Q K N (T.setTop (mkF m pc Ls (.long x :: rest))) := by
  subst hq
  exact .step (fun _ t => XS.lstoreN X.here C.1 rfl (hb C.2 hd) rfl hl t) k
theorem o_lstore (C : Cx p c code) (X : Stand p l e R s m args below meth c T locs cells slots) {i : Nat} {x : Int64} (hd : decode code pc = .ok (.lstore i, 2)) (q : Nat) (hq : pc + 2 = q) (l' : Array Slot) (hl : storeLocals Ls i (.long x) = some l') (k : Ends p e below s Q K N (T.setTop (mkF m q l' rest))) : Ends p e below s Q K N (T.setTop (mkF m pc Ls (.long x :: rest))) := by
  subst hq
  exact .step (fun _ t => XS.lstore X.here C.1 rfl (hb C.2 hd) rfl hl t) k
theorem o_astoreN (C : Cx p c code) (X : Stand p l e R s m args below meth c T locs cells slots) {i : Fin 4} {x : Value} (hd : decode code pc = .ok (.astore_n i, 1)) (q : Nat) (hq : pc + 1 = q) (hv : x.isRef = true) (l' : Array Slot) (hl : storeLocals Ls i.val x = some l') (k : Ends p e below s Q K N (T.setTop (mkF m q l' rest))) : Ends p e below s Q K N (T.setTop (mkF m pc Ls (x :: rest))) := by
  subst hq
  exact .step (fun _ t => XS.astoreN X.here C.1 rfl (hb C.2 hd) rfl hv hl t) k
theorem o_astore (C : Cx p c code) (X : Stand p l e R s m args below meth c T locs cells slots) {i : Nat} {x : Value} (hd : decode code pc = .ok (.astore i, 2)) (q : Nat) (hq : pc + 2 = q) (hv : x.isRef = true) (l' : Array Slot) (hl : storeLocals Ls i x = some l') (k : Ends p e below s Q K N (T.setTop (mkF m q l' rest))) : Ends p e below s Q K N (T.setTop (mkF m pc Ls (x :: rest))) := by
  subst hq
  exact .step (fun _ t => XS.astore X.here C.1 rfl (hb C.2 hd) rfl hv hl t) k
theorem o_iinc (C : Cx p c code) (X : Stand p l e R s m args below meth c T locs cells slots) {i : Nat} {cst : Int} {x : Int32} (v : Int32) (hd : decode code pc = .ok (.iinc i cst, 3)) (q : Nat) (hq : pc + 3 = q) (l' : Array Slot) (hl : Ls[i]? = some (.val (.int x))) (hv : x + Int32.ofInt cst = v) (hl' : storeLocals Ls i (.int v) = some l') (k : Ends p e below s Q K N (T.setTop (mkF m q l' rest))) : Ends p e below s Q K N (T.setTop (mkF m pc Ls rest)) := by
  subst hq hv
  exact .step (fun _ t => XS.iinc X.here C.1 rfl (hb C.2 hd) hl hl' t) k
theorem o_goto (C : Cx p c code) (X : Stand p l e R s m args below meth c T locs cells slots) {o : Int} (hd : decode code pc = .ok (.goto o, 3)) (q : Nat) (ho : 0 ≤ (pc : Int) + o) (hq : ((pc : Int) + o).toNat = q) (k : Ends p e below s Q K N (T.setTop (mkF m q Ls rest))) : Ends p e below s Q K N (T.setTop (mkF m pc Ls rest)) := by
  exact .step (fun _ t => XS.goto X.here C.1 rfl (pc0 := pc) rfl (hb C.2 hd) ho hq t) k
theorem o_ifY (C : Cx p c code) (X : Stand p l e R s m args below meth c T locs cells slots) {cd : ClassFile.Cond} {o : Int} {x : Int32} (hd : decode code pc = .ok (.ifCond cd o, 3)) (q : Nat) (ho : 0 ≤ (pc : Int) + o) (hq : ((pc : Int) + o).toNat = q) (hc : ifCond.holds cd x = true) (k : Ends p e below s Q K N (T.setTop (mkF m q Ls rest))) : Ends p e below s Q K N (T.setTop (mkF m pc Ls (.int x :: rest))) := by
  exact .step (fun _ t => XS.ifYes X.here C.1 rfl (pc0 := pc) rfl (hb C.2 hd) rfl hc ho hq t) k
theorem o_ifN (C : Cx p c code) (X : Stand p l e R s m args below meth c T locs cells slots) {cd : ClassFile.Cond} {o : Int} {x : Int32} (hd : decode code pc = .ok (.ifCond cd o, 3)) (q : Nat) (hq : pc + 3 = q) (hc : ifCond.holds cd x = false) (k : Ends p e below s Q K N (T.setTop (mkF m q Ls rest))) : Ends p e below s Q K N (T.setTop (mkF m pc Ls (.int x :: rest))) := by
  subst hq
  exact .step (fun _ t => XS.ifNo X.here C.1 rfl (hb C.2 hd) rfl hc t) k
theorem o_icmpY (C : Cx p c code) (X : Stand p l e R s m args below meth c T locs cells slots) {cd : ClassFile.Cond} {o : Int} {x y : Int32} (hd : decode code pc = .ok (.if_icmp cd o, 3)) (q : Nat) (ho : 0 ≤ (pc : Int) + o) (hq : ((pc : Int) + o).toNat = q) (hc : if_icmp.holds cd x y = true) (k : Ends p e below s Q K N (T.setTop (mkF m q Ls rest))) : Ends p e below s Q K N (T.setTop (mkF m pc Ls (.int y :: .int x :: rest))) := by
  exact .step (fun _ t => XS.icmpYes X.here C.1 rfl (pc0 := pc) rfl (hb C.2 hd) rfl hc ho hq t) k
theorem o_icmpN (C : Cx p c code) (X : Stand p l e R s m args below meth c T locs cells slots) {cd : ClassFile.Cond} {o : Int} {x y : Int32} (hd : decode code pc = .ok (.if_icmp cd o, 3)) (q : Nat) (hq : pc + 3 = q) (hc : if_icmp.holds cd x y = false) (k : Ends p e below s Q K N (T.setTop (mkF m q Ls rest))) : Ends p e below s Q K N (T.setTop (mkF m pc Ls (.int y :: .int x :: rest))) := by
  subst hq
  exact .step (fun _ t => XS.icmpNo X.here C.1 rfl (hb C.2 hd) rfl hc t) k
theorem o_tlt {x y : Int64} (h : x < y) : ifCond.holds .lt (cmpL x y) = true ∧ ifCond.holds .ge (cmpL x y) = false := by
  have := (lw_lt x y).mpr h
  simp only [if0]; exact ⟨(tlt this).1, (tlt this).2.1⟩
theorem o_flt {x y : Int64} (h : ¬ x < y) : ifCond.holds .lt (cmpL x y) = false ∧ ifCond.holds .ge (cmpL x y) = true := by
  have := fun q => h ((lw_lt x y).mp q)
  simp only [if0]; exact ⟨(flt this).1, (flt this).2.1⟩
theorem o_tgt {x y : Int64} (h : y < x) : ifCond.holds .gt (cmpL x y) = true ∧ ifCond.holds .le (cmpL x y) = false := by
  have := (lw_gt x y).mpr h
  simp only [if0]; exact ⟨(tlt this).2.2.1, (tlt this).2.2.2⟩
theorem o_fgt {x y : Int64} (h : ¬ y < x) : ifCond.holds .gt (cmpL x y) = false ∧ ifCond.holds .le (cmpL x y) = true := by
  have := fun q => h ((lw_gt x y).mp q)
  simp only [if0]; exact ⟨(flt this).2.2.1, (flt this).2.2.2⟩
theorem o_teq {x y : Int64} (h : x = y) : ifCond.holds .eq (cmpL x y) = true ∧ ifCond.holds .ne (cmpL x y) = false := by
  have := (lw_eq x y).mpr h
  simp only [if0]; exact ⟨(teq this).1, (teq this).2⟩
theorem o_feq {x y : Int64} (h : ¬ x = y) : ifCond.holds .eq (cmpL x y) = false ∧ ifCond.holds .ne (cmpL x y) = true := by
  have := fun q => h ((lw_eq x y).mp q)
  simp only [if0]; exact ⟨(feq this).1, (feq this).2⟩
theorem o_ldcI (C : Cx p c code) (X : Stand p l e R s m args below meth c T locs cells slots) (hZ : Z.Warmed39 s.vm) {own : String} {index : Nat} {v : Int32} (hown : s.vm.findClass own = some m.cls) (w : (Jvm.Cond.constant own index v).before a0 Z = true) (hd : decode code pc = .ok (.ldc index, 2)) (q : Nat) (hq : pc + 2 = q) (k : Ends p e below s Q K N (T.setTop (mkF m q Ls (.int v :: rest)))) : Ends p e below s Q K N (T.setTop (mkF m pc Ls rest)) := by
  subst hq
  exact .step (fun _ t => X.ldcI C.1 hown (mvT hZ w) (g := mkF m pc Ls rest) rfl (hb C.2 hd) t) k
theorem o_ldc2J (C : Cx p c code) (X : Stand p l e R s m args below meth c T locs cells slots) (hZ : Z.Warmed39 s.vm) {own : String} {index : Nat} {v : Int64} (hown : s.vm.findClass own = some m.cls) (w : (Jvm.Cond.constantLong own index v).before a0 Z = true) (hd : decode code pc = .ok (.ldc2_w index, 3)) (q : Nat) (hq : pc + 3 = q) (k : Ends p e below s Q K N (T.setTop (mkF m q Ls (.long v :: rest)))) : Ends p e below s Q K N (T.setTop (mkF m pc Ls rest)) := by
  subst hq
  exact .step (fun _ t => X.ldc2J C.1 hown (mvT hZ w) (g := mkF m pc Ls rest) rfl (hb C.2 hd) t) k
theorem o_retI (C : Cx p c code) (X : Stand p l e R s m args below meth c T locs cells slots) {z : Int32} (hret : meth.sig.returnType = some .int) (hlk : meth.locks = false) (hd : decode code pc = .ok (.ireturn, 1)) (hQ : Q (some (.int z)) T.heap locs) (hK : cells ≤ K) (hN : slots ≤ N) : Ends p e below s Q K N (T.setTop (mkF m pc Ls (.int z :: rest))) := by
  obtain ⟨fs, hr, hrun, hended, hW, hsame⟩ := X.leave (v := (some (.int z))) (fun h => by rw [hret] at h; cases h) hlk
  exact ⟨_, _, retOut X C.1 hret rfl (Or.inl ⟨rfl, Or.inl rfl, z, rfl⟩) (hb C.2 hd) hr, hrun, hended, _, _, rfl, hQ, ⟨_, rfl⟩, hW, hsame.mono hK hN⟩
theorem o_retN (C : Cx p c code) (X : Stand p l e R s m args below meth c T locs cells slots) {z : Int32} {t : FieldType} (hret : meth.sig.returnType = some t) (ht : t = .boolean ∨ t = .byte ∨ t = .char ∨ t = .short) (hlk : meth.locks = false) (hd : decode code pc = .ok (.ireturn, 1)) (hQ : Q (some (.int (nar t z))) T.heap locs) (hK : cells ≤ K) (hN : slots ≤ N) : Ends p e below s Q K N (T.setTop (mkF m pc Ls (.int z :: rest))) := by
  obtain ⟨fs, hr, hrun, hended, hW, hsame⟩ := X.leave (v := (some (.int (nar t z)))) (fun h => by rw [hret] at h; cases h) hlk
  exact ⟨_, _, retN X C.1 hret ht (hb C.2 hd) hr, hrun, hended, _, _, rfl, hQ, ⟨_, rfl⟩, hW, hsame.mono hK hN⟩
theorem o_retJ (C : Cx p c code) (X : Stand p l e R s m args below meth c T locs cells slots) {z : Int64} (hret : meth.sig.returnType = some .long) (hlk : meth.locks = false) (hd : decode code pc = .ok (.lreturn, 1)) (hQ : Q (some (.long z)) T.heap locs) (hK : cells ≤ K) (hN : slots ≤ N) : Ends p e below s Q K N (T.setTop (mkF m pc Ls (.long z :: rest))) := by
  obtain ⟨fs, hr, hrun, hended, hW, hsame⟩ := X.leave (v := (some (.long z))) (fun h => by rw [hret] at h; cases h) hlk
  exact ⟨_, _, retOut X C.1 hret rfl (Or.inr (Or.inl ⟨rfl, rfl, z, rfl⟩)) (hb C.2 hd) hr, hrun, hended, _, _, rfl, hQ, ⟨_, rfl⟩, hW, hsame.mono hK hN⟩
theorem o_retA (C : Cx p c code) (X : Stand p l e R s m args below meth c T locs cells slots) {z : Addr} {t : FieldType} (hret : meth.sig.returnType = some t) (ht : t.isReference = true) (hlk : meth.locks = false) (hd : decode code pc = .ok (.areturn, 1)) (hQ : Q (some (.ref z)) T.heap locs) (hK : cells ≤ K) (hN : slots ≤ N) : Ends p e below s Q K N (T.setTop (mkF m pc Ls (.ref z :: []))) := by
  obtain ⟨fs, hr, hrun, hended, hW, hsame⟩ := X.leave (v := (some (.ref z))) (fun h => by rw [hret] at h; cases h) hlk
  exact ⟨_, _, X.areturnOut C.1 rfl hret ht (hb C.2 hd) hr, hrun, hended, _, _, rfl, hQ, ⟨_, rfl⟩, hW, hsame.mono hK hN⟩
theorem o_ret (C : Cx p c code) (X : Stand p l e R s m args below meth c T locs cells slots) (hret : meth.sig.returnType = none) (hlk : meth.locks = false) (hd : decode code pc = .ok (.return_, 1)) (hQ : Q none T.heap locs) (hK : cells ≤ K) (hN : slots ≤ N) : Ends p e below s Q K N (T.setTop (mkF m pc Ls [])) := by
  obtain ⟨fs, hr, hrun, hended, hW, hsame⟩ := X.leave (v := none) (fun _ => rfl) hlk
  exact ⟨_, _, X.returnOut C.1 hret (hb C.2 hd) hr, hrun, hended, _, _, rfl, hQ, ⟨_, rfl⟩, hW, hsame.mono hK hN⟩
theorem o_callS (C : Cx p c code) (X : Stand p l e R s m args below meth c T locs cells slots) (hZ : Z.Warmed39 s.vm) (hml : c.maxLocals = Ls.size) {own : String} {index : Nat} {y : MethodName} {bytes : ByteArray} {maxL : Nat} {ret : Option FieldType} {rm : Room} {Qc : Option Value → Heap → List Loc → Prop} (hown : s.vm.findClass own = some m.cls)
    (w1 : (Jvm.Cond.methodLink own index y).before a0 Z = true) (w2 : (Jvm.Cond.static y).before a0 Z = true) (w3 : (Jvm.Cond.initialized y.cls).before a0 Z = true) (w4 : (Jvm.Cond.code y bytes maxL ret).before a0 Z = true) (hy : y.cls ≠ "java/lang/invoke/MethodHandle" ∧ y.cls ≠ "java/lang/invoke/VarHandle")
    {asL st : List Value} (hM : Con l Z y bytes maxL ret rm rm.cells rm.slots [] asL.toArray h Qc) (eT : T.heap = h) {ps : List FieldType} {rt : Option FieldType} (pd : parseMethodDescriptor y.desc = some ⟨ps, rt⟩) (hlen : asL.length = ps.length) (hst : st = asL.reverse ++ rest) (W : Nat) (hW : (rest.map fun v => v.category).sum ≤ W) (hf : rm.frames + 1 ≤ R.frames) (hl : W + (maxL + 11) + rm.locals ≤ R.locals) (hcl : cells + rm.cells ≤ R.cells) (hsl : slots + rm.slots ≤ R.slots)
    (hd : decode code pc = .ok (.invokestatic index, 3)) (q : Nat) (hq : pc + 3 = q) (k : ∀ (T' : State) (h' : Heap) (v : Option Value) (L : List Loc), Stand p l e R s m args below meth c T' (locs ++ L) (cells + rm.cells) (slots + rm.slots) → T'.heap = h' → Qc v h' L → Ends p e below s Q K N (T'.setTop (mkF m q Ls (v.toList ++ rest)))) : Ends p e below s Q K N (T.setTop (mkF m pc Ls st)) := by
  subst hq hst
  obtain ⟨v, _, ⟨T', L', k', n'⟩, -, X', ⟨Lc, hQ, rfl, rfl, rfl⟩, st⟩ := Jvm.LawKit.callS X C.1 (y := y) hown (mvT hZ w1) (mvT hZ w2) (mvT hZ w3) (mvT hZ w4) hy (backOf (W := W) hM hZ w4 w3 hf hl) (g := mkF m pc Ls (asL.reverse ++ rest)) rfl hml.symm (argsL := asL) (rest := rest) (lenOf pd hlen) rfl (by show 2 * 0 + _ ≤ _; omega) (hb C.2 hd) (fun _ _ => ⟨rfl, eT, hcl, hsl⟩)
  exact .step st (k T' _ v Lc X' rfl hQ)
theorem o_callI (C : Cx p c code) (X : Stand p l e R s m args below meth c T locs cells slots) (hZ : Z.Warmed39 s.vm) (hml : c.maxLocals = Ls.size) {own : String} {index : Nat} {y : MethodName} {bytes : ByteArray} {maxL : Nat} {rm : Room} {Qc : Option Value → Heap → List Loc → Prop} (hown : s.vm.findClass own = some m.cls) (hy1 : y.name = "<init>")
    (w1 : (Jvm.Cond.methodLink own index y).before a0 Z = true) (w2 : (Jvm.Cond.instanceMethod y).before a0 Z = true) (w3 : (Jvm.Cond.initialized y.cls).before a0 Z = true) (w4 : (Jvm.Cond.code y bytes maxL none).before a0 Z = true) (hy : y.cls ≠ "java/lang/invoke/MethodHandle" ∧ y.cls ≠ "java/lang/invoke/VarHandle")
    {asL st : List Value} {a : Addr} (hM : Con l Z y bytes maxL none rm rm.cells rm.slots [] (.ref a :: asL).toArray h Qc) (eT : T.heap = h) {ps : List FieldType} {rt : Option FieldType} (pd : parseMethodDescriptor y.desc = some ⟨ps, rt⟩) (hlen : asL.length = ps.length) (hst : st = asL.reverse ++ .ref a :: rest) (W : Nat) (hW : (rest.map fun v => v.category).sum ≤ W) (hf : rm.frames + 1 ≤ R.frames) (hl : W + (maxL + 11) + rm.locals ≤ R.locals) (hcl : cells + rm.cells ≤ R.cells) (hsl : slots + rm.slots ≤ R.slots)
    (hd : decode code pc = .ok (.invokespecial index, 3)) (q : Nat) (hq : pc + 3 = q) (k : ∀ (T' : State) (h' : Heap) (v : Option Value) (L : List Loc), Stand p l e R s m args below meth c T' (locs ++ L) (cells + rm.cells) (slots + rm.slots) → T'.heap = h' → Qc v h' L → Ends p e below s Q K N (T'.setTop (mkF m q Ls (v.toList ++ rest)))) : Ends p e below s Q K N (T.setTop (mkF m pc Ls st)) := by
  subst hq hst
  obtain ⟨v, _, ⟨T', L', k', n'⟩, -, X', ⟨Lc, hQ, rfl, rfl, rfl⟩, st⟩ := X.specialBack C.1 (y := y) hy1 hown (mvT hZ w1) (mvT hZ w2) (mvT hZ w4) hy (backOf (W := W) hM hZ w4 w3 hf hl) (g := mkF m pc Ls (asL.reverse ++ .ref a :: rest)) rfl hml.symm (Steps.refl _) (a := a) (argsL := asL) (rest := rest) (lenOf pd hlen) rfl (by show 2 * 0 + _ ≤ _; omega) (hb C.2 hd) (fun _ _ => ⟨rfl, eT, hcl, hsl⟩)
  exact .step (fun _ t => st.trans t) (k T' _ v Lc X' rfl hQ)
theorem o_callV (C : Cx p c code) (X : Stand p l e R s m args below meth c T locs cells slots) (hZ : Z.Warmed39 s.vm) (hml : c.maxLocals = Ls.size) {own : String} {index : Nat} {y : MethodName} {bytes : ByteArray} {maxL : Nat} {ret : Option FieldType} {rm : Room} {Qc : Option Value → Heap → List Loc → Prop} (hown : s.vm.findClass own = some m.cls)
    (w1 : (Jvm.Cond.methodLink own index y).before a0 Z = true) (w2 : (Jvm.Cond.declares y).before a0 Z = true) (w5 : (Jvm.Cond.selects y.cls y y).before a0 Z = true) (w6 : (Jvm.Cond.instanceMethod y).before a0 Z = true) (w3 : (Jvm.Cond.initialized y.cls).before a0 Z = true) (w4 : (Jvm.Cond.code y bytes maxL ret).before a0 Z = true) (hy : y.cls ≠ "java/lang/invoke/MethodHandle" ∧ y.cls ≠ "java/lang/invoke/VarHandle")
    {asL st : List Value} {a : Addr} (hM : Con l Z y bytes maxL ret rm rm.cells rm.slots [] (.ref a :: asL).toArray h Qc) (eT : T.heap = h) (E : Exa Z h a y.cls) {ps : List FieldType} {rt : Option FieldType} (pd : parseMethodDescriptor y.desc = some ⟨ps, rt⟩) (hlen : asL.length = ps.length) (hst : st = asL.reverse ++ .ref a :: rest) (W : Nat) (hW : (rest.map fun v => v.category).sum ≤ W) (hf : rm.frames + 1 ≤ R.frames) (hl : W + (maxL + 11) + rm.locals ≤ R.locals) (hcl : cells + rm.cells ≤ R.cells) (hsl : slots + rm.slots ≤ R.slots)
    (hd : decode code pc = .ok (.invokevirtual index, 3)) (q : Nat) (hq : pc + 3 = q) (k : ∀ (T' : State) (h' : Heap) (v : Option Value) (L : List Loc), Stand p l e R s m args below meth c T' (locs ++ L) (cells + rm.cells) (slots + rm.slots) → T'.heap = h' → Qc v h' L → Ends p e below s Q K N (T'.setTop (mkF m q Ls (v.toList ++ rest)))) : Ends p e below s Q K N (T.setTop (mkF m pc Ls st)) := by
  subst hq hst
  obtain ⟨cq, kq, qa, qb, qc⟩ := isOf hZ eT E
  obtain ⟨v, _, ⟨T', L', k', n'⟩, -, X', ⟨Lc, hQ, rfl, rfl, rfl⟩, st⟩ := X.virtualBack C.1 (y := y) (z := y) hown (mvT hZ w1) (mvT hZ w2) (notFace_of_selects (args := #[]) (mvT hZ w5)) (mvT hZ w5) (mvT hZ w6) hy (backOf (W := W) hM hZ w4 w3 hf hl) qa qc (g := mkF m pc Ls (asL.reverse ++ .ref a :: rest)) rfl hml.symm (Steps.refl _) (argsL := asL) (rest := rest) (lenOf pd hlen) rfl (by show 2 * 0 + _ ≤ _; omega) (hb C.2 hd) (fun _ _ => ⟨rfl, eT, hcl, hsl⟩)
  exact .step (fun _ t => st.trans t) (k T' _ v Lc X' rfl hQ)
theorem Ends.via {T0 : State} (F : JFrame) (k1 : Ends p e below s Q K N (T.setTop F) → Ends p e below s Q K N T0) (k2 : Ends p e below s Q K N (T.setTop F)) : Ends p e below s Q K N T0 := k1 k2
/-- what a callee that writes and makes nothing says: its value, the heap as it was -/
def PQ (v0 : Value) (h : Heap) : Option Value → Heap → List Loc → Prop := fun v h' L => v = some v0 ∧ L = [] ∧ h' = h
theorem o_callP (C : Cx p c code) (X : Stand p l e R s m args below meth c T locs cells slots) (hZ : Z.Warmed39 s.vm) (hml : c.maxLocals = Ls.size) {own : String} {index : Nat} {y : MethodName} {bytes : ByteArray} {maxL : Nat} {ret : Option FieldType} {rf rl : Nat} {v0 : Value} (hown : s.vm.findClass own = some m.cls)
    (w1 : (Jvm.Cond.methodLink own index y).before a0 Z = true) (w2 : (Jvm.Cond.static y).before a0 Z = true) (w3 : (Jvm.Cond.initialized y.cls).before a0 Z = true) (w4 : (Jvm.Cond.code y bytes maxL ret).before a0 Z = true) (hy : y.cls ≠ "java/lang/invoke/MethodHandle" ∧ y.cls ≠ "java/lang/invoke/VarHandle")
    {asL st : List Value} (hM : Con l Z y bytes maxL ret { frames := rf, cells := 0, slots := 0, locals := rl } 0 0 [] asL.toArray h (PQ v0 h)) (eT : T.heap = h) {ps : List FieldType} {rt : Option FieldType} (pd : parseMethodDescriptor y.desc = some ⟨ps, rt⟩) (hlen : asL.length = ps.length) (hst : st = asL.reverse ++ rest) (W : Nat) (hW : (rest.map fun v => v.category).sum ≤ W) (hf : rf + 1 ≤ R.frames) (hl : W + (maxL + 11) + rl ≤ R.locals) (hcl : cells ≤ R.cells) (hsl : slots ≤ R.slots)
    (hd : decode code pc = .ok (.invokestatic index, 3)) (q : Nat) (hq : pc + 3 = q) (k : ∀ (T' : State), Stand p l e R s m args below meth c T' locs cells slots → T'.heap = h → Ends p e below s Q K N (T'.setTop (mkF m q Ls (v0 :: rest)))) : Ends p e below s Q K N (T.setTop (mkF m pc Ls st)) := by
  refine o_callS C X hZ hml hown w1 w2 w3 w4 hy (rm := { frames := rf, cells := 0, slots := 0, locals := rl }) hM eT pd hlen hst W hW hf hl hcl hsl hd q hq ?_
  intro T' h' v L X' e' hq
  obtain ⟨rfl, rfl, hh⟩ := hq
  rw [List.append_nil] at X'
  exact k T' X' (e'.trans hh)
theorem o_callVP (C : Cx p c code) (X : Stand p l e R s m args below meth c T locs cells slots) (hZ : Z.Warmed39 s.vm) (hml : c.maxLocals = Ls.size) {own : String} {index : Nat} {y : MethodName} {bytes : ByteArray} {maxL : Nat} {ret : Option FieldType} {rf rl : Nat} {v0 : Value} (hown : s.vm.findClass own = some m.cls)
    (w1 : (Jvm.Cond.methodLink own index y).before a0 Z = true) (w2 : (Jvm.Cond.declares y).before a0 Z = true) (w5 : (Jvm.Cond.selects y.cls y y).before a0 Z = true) (w6 : (Jvm.Cond.instanceMethod y).before a0 Z = true) (w3 : (Jvm.Cond.initialized y.cls).before a0 Z = true) (w4 : (Jvm.Cond.code y bytes maxL ret).before a0 Z = true) (hy : y.cls ≠ "java/lang/invoke/MethodHandle" ∧ y.cls ≠ "java/lang/invoke/VarHandle")
    {asL st : List Value} {a : Addr} (hM : Con l Z y bytes maxL ret { frames := rf, cells := 0, slots := 0, locals := rl } 0 0 [] (.ref a :: asL).toArray h (PQ v0 h)) (eT : T.heap = h) (E : Exa Z h a y.cls) {ps : List FieldType} {rt : Option FieldType} (pd : parseMethodDescriptor y.desc = some ⟨ps, rt⟩) (hlen : asL.length = ps.length) (hst : st = asL.reverse ++ .ref a :: rest) (W : Nat) (hW : (rest.map fun v => v.category).sum ≤ W) (hf : rf + 1 ≤ R.frames) (hl : W + (maxL + 11) + rl ≤ R.locals) (hcl : cells ≤ R.cells) (hsl : slots ≤ R.slots)
    (hd : decode code pc = .ok (.invokevirtual index, 3)) (q : Nat) (hq : pc + 3 = q) (k : ∀ (T' : State), Stand p l e R s m args below meth c T' locs cells slots → T'.heap = h → Ends p e below s Q K N (T'.setTop (mkF m q Ls (v0 :: rest)))) : Ends p e below s Q K N (T.setTop (mkF m pc Ls st)) := by
  refine o_callV C X hZ hml hown w1 w2 w5 w6 w3 w4 hy (rm := { frames := rf, cells := 0, slots := 0, locals := rl }) hM eT E pd hlen hst W hW hf hl hcl hsl hd q hq ?_
  intro T' h' v L X' e' hq
  obtain ⟨rfl, rfl, hh⟩ := hq
  rw [List.append_nil] at X'
  exact k T' X' (e'.trans hh)
theorem o_new (C : Cx p c code) (X : Stand p l e R s m args below meth c T locs cells slots) (hZ : Z.Warmed39 s.vm) {own Cn : String} {index n : Nat} (hown : s.vm.findClass own = some m.cls) (w : (Jvm.Cond.classLink own index Cn).before a0 Z = true) (wi : (Jvm.Cond.instantiable Cn n).before a0 Z = true) (wz : (Jvm.Cond.initialized Cn).before a0 Z = true) (eT : T.heap = h) (hd : decode code pc = .ok (.new index, 3)) (hc : cells + 1 ≤ R.cells) (hl : slots + n ≤ R.slots) (q : Nat) (hq : pc + 3 = q)
    (k : ∀ (T' : State) (h' : Heap) (a : Addr), a = h.size → Stand p l e R s m args below meth c T' locs (cells + 1) (slots + n) → T'.heap = h' → Ext h h' → Exa Z h' a Cn → (∀ {O nm d : String} {ty : FieldType}, Laid Z a0 Cn O nm d → parseFieldDescriptor d = some ty → Fld Z h' a O nm d (defaultValue ty)) → Ends p e below s Q K N (T'.setTop (mkF m q Ls (.ref a :: rest)))) : Ends p e below s Q K N (T.setTop (mkF m pc Ls rest)) := by
  subst hq
  obtain ⟨T', h', X', e', E, A, D, -, st⟩ := newO X C.1 hZ hown w wi wz eT (g := mkF m pc Ls rest) rfl (hb C.2 hd) hc hl
  exact .step st (k T' h' _ rfl X' e' E A D)
theorem o_getF (C : Cx p c code) (X : Stand p l e R s m args below meth c T locs cells slots) (hZ : Z.Warmed39 s.vm) {own R0 O n d : String} {index : Nat} (hown : s.vm.findClass own = some m.cls) (w : (Jvm.Cond.fieldLink own index R0 n d).before a0 Z = true) (via : Via Z R0 O n d) (eT : T.heap = h) {a : Addr} {v : Value} (F : Fld Z h a O n d v) (hd : decode code pc = .ok (.getfield index, 3)) (q : Nat) (hq : pc + 3 = q)
    (k : ∀ (T' : State), Stand p l e R s m args below meth c T' locs cells slots → T'.heap = h → Ends p e below s Q K N (T'.setTop (mkF m q Ls (v :: rest)))) : Ends p e below s Q K N (T.setTop (mkF m pc Ls (.ref a :: rest))) := by
  subst hq
  obtain ⟨T', X', e', st⟩ := getF X C.1 hZ hown (host := "") (Or.inl w) via eT F (g := mkF m pc Ls (.ref a :: rest)) rfl rfl (hb C.2 hd)
  exact .step st (k T' X' e')
theorem o_putF (C : Cx p c code) (X : Stand p l e R s m args below meth c T locs cells slots) (hZ : Z.Warmed39 s.vm) {own R0 O n d Cn : String} {index kk : Nat} {ty : FieldType} (hown : s.vm.findClass own = some m.cls) (w : (Jvm.Cond.fieldLink own index R0 n d).before a0 Z = true) (via : Via Z R0 O n d) (eT : T.heap = h) {a : Addr} {v old : Value} (F : Fld Z h a O n d old) (E : Exa Z h a Cn) (L : (Jvm.Cond.lays Cn O n d).before a0 Z = true ∨ ((Jvm.Cond.laysFinal Cn O n d).before a0 Z = true ∧ own = O ∧ meth.name = "<init>")) (wi : (Jvm.Cond.instantiable Cn kk).before a0 Z = true) (hty : parseFieldDescriptor d = some ty) (hn : narrow ty v = v) (hf : fits ty v = true) (hd : decode code pc = .ok (.putfield index, 3)) (q : Nat) (hq : pc + 3 = q) {n0 : Nat} (N0 : Fr n0 locs) (ha : n0 ≤ a)
    (k : ∀ (T' : State) (h' : Heap) (locs' : List Loc), Stand p l e R s m args below meth c T' locs' cells slots → T'.heap = h' → Wr h h' a (Jvm.RoadKit.slotOf Z O n d) v → Fr n0 locs' → Ends p e below s Q K N (T'.setTop (mkF m q Ls rest))) : Ends p e below s Q K N (T.setTop (mkF m pc Ls (v :: .ref a :: rest))) := by
  subst hq
  obtain ⟨T', h', X', e', W, st⟩ := putF X C.1 hZ hown (host := "") (Or.inl w) via eT F E L wi hty hn hf (g := mkF m pc Ls (v :: .ref a :: rest)) rfl rfl (hb C.2 hd)
  exact .step st (k T' h' _ X' e' W (Fr.snoc X' N0 ha))
theorem o_initO (C : Cx p c code) (X : Stand p l e R s m args below meth c T locs cells slots) (hZ : Z.Warmed39 s.vm) (hml : c.maxLocals = Ls.size) {own : String} {idx : Nat} (hown : s.vm.findClass own = some m.cls) (w1 : (Jvm.Cond.methodLink own idx Lib.objectInit).before a0 Z = true) (w2 : (Jvm.Cond.instanceMethod Lib.objectInit).before a0 Z = true) (w3 : (Jvm.Cond.code Lib.objectInit object_method_1_code 1 none).before a0 Z = true) (eT : T.heap = h) {a : Addr} (W : Nat) (hW : (rest.map fun v => v.category).sum ≤ W) (hf : 1 ≤ R.frames) (hl : W + 12 ≤ R.locals) (hd : decode code pc = .ok (.invokespecial idx, 3)) (q : Nat) (hq : pc + 3 = q)
    (k : ∀ (T' : State), Stand p l e R s m args below meth c T' locs cells slots → T'.heap = h → Ends p e below s Q K N (T'.setTop (mkF m q Ls rest))) : Ends p e below s Q K N (T.setTop (mkF m pc Ls (.ref a :: rest))) := by
  subst hq
  obtain ⟨T', X', e', st⟩ := initO X C.1 hZ hown w1 w2 w3 eT (g := mkF m pc Ls (.ref a :: rest)) rfl hml.symm rfl (hb C.2 hd) hf (W := W) (by show 2 * 0 + _ ≤ _; omega) hl
  exact .step st (k T' X' e')
/-- the array at a has n places; the place j holds the int f j -/
def AI (Z : State) (h : Heap) (a : Addr) (ty : FieldType) (n : Nat) (f : Nat → Int32) : Prop := ∃ cl : Cell, Arr Z h a cl ty ∧ cl.slots.size = n ∧ n < 2 ^ 31 ∧ ∀ j, j < n → cl.slots[j]? = some (.int (f j))
theorem AI.lt {a : Addr} {ty : FieldType} {n : Nat} {f : Nat → Int32} (A : AI Z h a ty n f) : a < h.size := by
  obtain ⟨cl, A, -⟩ := A; exact A.lt
theorem AI.ext {h' : Heap} {a : Addr} {ty : FieldType} {n : Nat} {f : Nat → Int32} (A : AI Z h a ty n f) (E : Ext h h') : AI Z h' a ty n f := by
  obtain ⟨cl, A, B⟩ := A; exact ⟨cl, A.ext E, B⟩
theorem AI.other {h' : Heap} {a b : Addr} {ty : FieldType} {n sl : Nat} {v : Value} {f : Nat → Int32} (A : AI Z h b ty n f) (W : Wr h h' a sl v) (q : b ≠ a) : AI Z h' b ty n f := by
  obtain ⟨cl, A, B⟩ := A; exact ⟨cl, A.other W q, B⟩
theorem AI.keep {h' : Heap} {a : Addr} {ty : FieldType} {n : Nat} {f : Nat → Int32} {ws : List Addr} (A : AI Z h a ty n f) (k : Keep h h' ws) (q : a ∉ ws) : AI Z h' a ty n f := by
  obtain ⟨cl, ⟨A1, A2⟩, B⟩ := A; exact ⟨cl, ⟨k.2.1 _ _ A1 q, A2⟩, B⟩
theorem AI.wr {h' : Heap} {a : Addr} {ty : FieldType} {n i : Nat} {v : Int32} {f : Nat → Int32} (A : AI Z h a ty n f) (W : Wr h h' a i (.int v)) (hi : i < n) : AI Z h' a ty n (fun j => if j = i then v else f j) := by
  obtain ⟨cl, A, S, M, B⟩ := A
  refine ⟨_, A.same W, by rw [sz_set]; exact S, M, fun j hj => ?_⟩
  show (cl.slots.setIfInBounds i (.int v))[j]? = _
  rw [Array.getElem?_setIfInBounds]
  by_cases q : i = j
  · subst q; rw [if_pos rfl, if_pos (by rw [S]; exact hi)]; dsimp only; rw [if_pos rfl]
  · rw [if_neg q, B j hj]; dsimp only; rw [if_neg (fun r => q r.symm)]
theorem AI.congr {a : Addr} {ty : FieldType} {n : Nat} {f g : Nat → Int32} (A : AI Z h a ty n f) (q : ∀ j, j < n → f j = g j) : AI Z h a ty n g := by
  obtain ⟨cl, A, S, M, B⟩ := A
  exact ⟨cl, A, S, M, fun j hj => by rw [B j hj, q j hj]⟩
theorem AI.ne {a b : Addr} {ty : FieldType} {n : Nat} {f : Nat → Int32} (A : AI Z h a ty n f) (q : b = h.size) : a ≠ b := fun r => by
  have := A.lt; rw [r, q] at this; exact Nat.lt_irrefl _ this
theorem own_idx {m : Nat} {j : Int32} {i n : Nat} (hj : j.toInt = i) (hi : i < n) (S : m = n) : ¬ (j < 0 ∨ m ≤ j.toNatClampNeg) ∧ j.toNatClampNeg = i := by
  have e1 : j.toNatClampNeg = i := by rw [Int32.toNatClampNeg, hj]; rfl
  refine ⟨?_, e1⟩
  rw [e1, S, Int32.lt_iff_toInt_lt, hj, show (0 : Int32).toInt = 0 from rfl]
  omega
theorem o_iaload (C : Cx p c code) (X : Stand p l e R s m args below meth c T locs cells slots) (hZ : Z.Warmed39 s.vm) (eT : T.heap = h) {a : Addr} {n : Nat} {f : Nat → Int32} (A : AI Z h a .int n f) {j : Int32} (i : Nat) (hj : j.toInt = i) (hi : i < n) (hd : decode code pc = .ok (.iaload, 1)) (q : Nat) (hq : pc + 1 = q) (k : Ends p e below s Q K N (T.setTop (mkF m q Ls (.int (f i) :: rest)))) : Ends p e below s Q K N (T.setTop (mkF m pc Ls (.int j :: .ref a :: rest))) := by
  subst hq
  obtain ⟨cl, A, S, M, B⟩ := A
  obtain ⟨q1, q2⟩ := own_idx hj hi S
  exact .step (fun t kt => X.iaload C.1 (j := j) (v := .int (f i)) (by rw [eT]; exact A.1) (State.isArrayOf_alike hZ.alike A.2.1) A.2.2 q1 (by rw [q2]; exact B i hi) (g := mkF m pc Ls (.int j :: .ref a :: rest)) rfl rfl (hb C.2 hd) t kt) k
theorem o_baload (C : Cx p c code) (X : Stand p l e R s m args below meth c T locs cells slots) (hZ : Z.Warmed39 s.vm) (eT : T.heap = h) {a : Addr} {n : Nat} {f : Nat → Int32} (A : AI Z h a .byte n f) {j : Int32} (i : Nat) (hj : j.toInt = i) (hi : i < n) (hd : decode code pc = .ok (.baload, 1)) (q : Nat) (hq : pc + 1 = q) (k : Ends p e below s Q K N (T.setTop (mkF m q Ls (.int (f i) :: rest)))) : Ends p e below s Q K N (T.setTop (mkF m pc Ls (.int j :: .ref a :: rest))) := by
  subst hq
  obtain ⟨cl, A, S, M, B⟩ := A
  obtain ⟨q1, q2⟩ := own_idx hj hi S
  exact .step (fun t kt => X.baloadBytes C.1 (j := j) (v := .int (f i)) (by rw [eT]; exact A.1) (State.isArrayOf_alike hZ.alike A.2.1) A.2.2 q1 (by rw [q2]; exact B i hi) (g := mkF m pc Ls (.int j :: .ref a :: rest)) rfl rfl (hb C.2 hd) t kt) k
theorem o_arraylength (C : Cx p c code) (X : Stand p l e R s m args below meth c T locs cells slots) (hZ : Z.Warmed39 s.vm) (eT : T.heap = h) {a : Addr} {ty : FieldType} {n : Nat} {f : Nat → Int32} (A : AI Z h a ty n f) (v : Int32) (hv : n.toInt32 = v) (hd : decode code pc = .ok (.arraylength, 1)) (q : Nat) (hq : pc + 1 = q) (k : Ends p e below s Q K N (T.setTop (mkF m q Ls (.int v :: rest)))) : Ends p e below s Q K N (T.setTop (mkF m pc Ls (.ref a :: rest))) := by
  subst hq hv
  obtain ⟨cl, A, rfl, M, B⟩ := A
  exact .step (fun t kt => X.arraylength C.1 (by rw [eT]; exact A.1) (State.isArrayOf_alike hZ.alike A.2.1) (g := mkF m pc Ls (.ref a :: rest)) rfl (rest := rest) rfl (hb C.2 hd) t kt) k
theorem o_iastore (C : Cx p c code) (X : Stand p l e R s m args below meth c T locs cells slots) (hZ : Z.Warmed39 s.vm) (eT : T.heap = h) {a : Addr} {n : Nat} {f : Nat → Int32} (A : AI Z h a .int n f) {j x : Int32} (i : Nat) (hj : j.toInt = i) (hi : i < n) (hd : decode code pc = .ok (.iastore, 1)) (q : Nat) (hq : pc + 1 = q) {n0 : Nat} (N0 : Fr n0 locs) (ha : n0 ≤ a)
    (k : ∀ (T' : State) (h' : Heap) (locs' : List Loc), Stand p l e R s m args below meth c T' locs' cells slots → T'.heap = h' → Wr h h' a i (.int x) → Fr n0 locs' → AI Z h' a .int n (fun j => if j = i then x else f j) → Ends p e below s Q K N (T'.setTop (mkF m q Ls rest))) : Ends p e below s Q K N (T.setTop (mkF m pc Ls (.int x :: .int j :: .ref a :: rest))) := by
  subst hq
  obtain ⟨cl, A', S, M, B⟩ := A
  obtain ⟨q1, q2⟩ := own_idx hj hi S
  obtain ⟨T', h', X', e', W, st⟩ := stI X C.1 hZ eT A' (j := j) (x := x) q1 (g := mkF m pc Ls (.int x :: .int j :: .ref a :: rest)) rfl rfl (hb C.2 hd)
  rw [q2] at W
  exact .step st (k T' h' _ X' e' W (Fr.snoc X' N0 ha) (AI.wr ⟨cl, A', S, M, B⟩ W hi))
theorem o_bastore (C : Cx p c code) (X : Stand p l e R s m args below meth c T locs cells slots) (hZ : Z.Warmed39 s.vm) (eT : T.heap = h) {a : Addr} {n : Nat} {f : Nat → Int32} (A : AI Z h a .byte n f) {j x : Int32} (i : Nat) (hj : j.toInt = i) (hi : i < n) (hd : decode code pc = .ok (.bastore, 1)) (q : Nat) (hq : pc + 1 = q) {n0 : Nat} (N0 : Fr n0 locs) (ha : n0 ≤ a)
    (k : ∀ (T' : State) (h' : Heap) (locs' : List Loc), Stand p l e R s m args below meth c T' locs' cells slots → T'.heap = h' → Wr h h' a i (.int (nar .byte x)) → Fr n0 locs' → AI Z h' a .byte n (fun j => if j = i then (nar .byte x) else f j) → Ends p e below s Q K N (T'.setTop (mkF m q Ls rest))) : Ends p e below s Q K N (T.setTop (mkF m pc Ls (.int x :: .int j :: .ref a :: rest))) := by
  subst hq
  obtain ⟨cl, A', S, M, B⟩ := A
  obtain ⟨q1, q2⟩ := own_idx hj hi S
  obtain ⟨T', h', X', e', W, st⟩ := stB X C.1 hZ eT A' (j := j) (x := x) q1 (g := mkF m pc Ls (.int x :: .int j :: .ref a :: rest)) rfl rfl (hb C.2 hd)
  rw [q2] at W
  exact .step st (k T' h' _ X' e' W (Fr.snoc X' N0 ha) (AI.wr ⟨cl, A', S, M, B⟩ W hi))
theorem o_newarrayI (C : Cx p c code) (X : Stand p l e R s m args below meth c T locs cells slots) (hZ : Z.Warmed39 s.vm) (w : (Jvm.Cond.arrayClass .int).before a0 Z = true) (eT : T.heap = h) {z : Int32} (n : Nat) (hz : z.toInt = n) (cap : Nat) (hcap : n ≤ cap) (hb8 : cap * 8 ≤ 536870912) (hc : cells + 1 ≤ R.cells) (hl : slots + cap ≤ R.slots) (hd : decode code pc = .ok (.newarray .int, 2)) (q : Nat) (hq : pc + 2 = q)
    (k : ∀ (T' : State) (h' : Heap) (a : Addr), a = h.size → Stand p l e R s m args below meth c T' locs (cells + 1) (slots + cap) → T'.heap = h' → Ext h h' → AI Z h' a .int n (fun _ => 0) → Ends p e below s Q K N (T'.setTop (mkF m q Ls (.ref a :: rest)))) : Ends p e below s Q K N (T.setTop (mkF m pc Ls (.int z :: rest))) := by
  subst hq
  have hn : ¬ z < 0 := by rw [Int32.lt_iff_toInt_lt, hz, show (0 : Int32).toInt = 0 from rfl]; omega
  have e1 : z.toNatClampNeg = n := by rw [Int32.toNatClampNeg, hz]; rfl
  have hr := Int32.toInt_lt z
  obtain ⟨T', h', cA, X', e', E, A, st⟩ := newP X C.1 hZ (aty := .int) w eT (g := mkF m pc Ls (.int z :: rest)) rfl (hb C.2 hd) (n := z) (rest := rest) rfl hn (cap := cap) (by rw [e1]; exact hcap) hb8 hc hl
  refine .step st (k T' h' _ rfl X' e' E ⟨_, A, by rw [sz_new, e1], by omega, fun j hj => ?_⟩)
  simp only [newA, e1]
  rw [Array.getElem?_replicate, if_pos hj]; rfl
theorem o_newarrayB (C : Cx p c code) (X : Stand p l e R s m args below meth c T locs cells slots) (hZ : Z.Warmed39 s.vm) (w : (Jvm.Cond.arrayClass .byte).before a0 Z = true) (eT : T.heap = h) {z : Int32} (n : Nat) (hz : z.toInt = n) (cap : Nat) (hcap : n ≤ cap) (hb8 : cap * 8 ≤ 536870912) (hc : cells + 1 ≤ R.cells) (hl : slots + cap ≤ R.slots) (hd : decode code pc = .ok (.newarray .byte, 2)) (q : Nat) (hq : pc + 2 = q)
    (k : ∀ (T' : State) (h' : Heap) (a : Addr), a = h.size → Stand p l e R s m args below meth c T' locs (cells + 1) (slots + cap) → T'.heap = h' → Ext h h' → AI Z h' a .byte n (fun _ => 0) → Ends p e below s Q K N (T'.setTop (mkF m q Ls (.ref a :: rest)))) : Ends p e below s Q K N (T.setTop (mkF m pc Ls (.int z :: rest))) := by
  subst hq
  have hn : ¬ z < 0 := by rw [Int32.lt_iff_toInt_lt, hz, show (0 : Int32).toInt = 0 from rfl]; omega
  have e1 : z.toNatClampNeg = n := by rw [Int32.toNatClampNeg, hz]; rfl
  have hr := Int32.toInt_lt z
  obtain ⟨T', h', cA, X', e', E, A, st⟩ := newP X C.1 hZ (aty := .byte) w eT (g := mkF m pc Ls (.int z :: rest)) rfl (hb C.2 hd) (n := z) (rest := rest) rfl hn (cap := cap) (by rw [e1]; exact hcap) hb8 hc hl
  refine .step st (k T' h' _ rfl X' e' E ⟨_, A, by rw [sz_new, e1], by omega, fun j hj => ?_⟩)
  simp only [newA, e1]
  rw [Array.getElem?_replicate, if_pos hj]; rfl
end Own
section OwnCopy
variable {p : Program} {l : Launch} {e : Env} {R : Room} {s : State} {m : MethodId} {args : Array Value} {below : List Frame} {meth : Method} {c : Code} {T : State} {locs : List Loc} {cells slots : Nat} {Z : State} {a0 : Array Value} {h : Heap} {Q : Option Value → Heap → List Loc → Prop} {K N pc : Nat} {Ls : Array Slot} {code : ByteArray} {rest : List Value}
theorem AI.arv {a : Addr} {n : Nat} {f : Nat → Int32} (A : AI Z h a .int n f) : ∃ k, Arv Z h a k .int (Int32.ofNat n) ((List.range n).map fun j => .int (f j)) (.int 0) := by
  obtain ⟨cl, A, S, M, B⟩ := A
  have e1 : (Int32.ofNat n).toInt = (n : Int) := Int32.toInt_ofNat_of_lt (by omega)
  refine ⟨cl.cls, cl, A, rfl, by rw [S, Int32.toNatClampNeg, e1]; rfl, by rw [Int32.lt_iff_toInt_lt, e1, show (0 : Int32).toInt = 0 from rfl]; omega, fun k hk => ?_, fun i _ => ?_⟩
  · rw [B k (by omega), List.getD_eq_getElem?_getD, List.getElem?_map, List.getElem?_range (by omega)]; rfl
  · rw [List.getD_eq_getElem?_getD]
    by_cases q : i < n
    · rw [List.getElem?_map, List.getElem?_range q]; rfl
    · rw [List.getElem?_eq_none (by simp; omega)]; rfl
theorem AI.of_arv {a : Addr} {k : ClassId} {n : Nat} {f : Nat → Int32} {z : Int32} {vs : List Value} {d : Value} (A : Arv Z h a k .int z vs d) (hz : z.toInt = n) (q : ∀ j, j < n → vs.getD j d = .int (f j)) : AI Z h a .int n f := by
  obtain ⟨cl, A, -, S, M, H, -⟩ := A
  have e1 : z.toNatClampNeg = n := by rw [Int32.toNatClampNeg, hz]; rfl
  have hr := Int32.toInt_lt z
  exact ⟨cl, A, by rw [S, e1], by omega, fun j hj => by rw [H j (by rw [S, e1]; exact hj), q j hj]⟩
theorem o_arraycopy (C : Cx p c code) (X : Stand p l e R s m args below meth c T locs cells slots) (hZ : Z.Warmed39 s.vm) (hml : c.maxLocals = Ls.size) {own : String} {index : Nat} (hown : s.vm.findClass own = some m.cls)
    (w1 : (Jvm.Cond.methodLink own index Jvm.Stand.acN).before a0 Z = true) (w2 : (Jvm.Cond.native Jvm.Stand.acN).before a0 Z = true) (w3 : (Jvm.Cond.static Jvm.Stand.acN).before a0 Z = true) (w4 : (Jvm.Cond.initialized "java/lang/System").before a0 Z = true) (eT : T.heap = h)
    {a b : Addr} {na nb : Nat} {fa fb : Nat → Int32} (A : AI Z h a .int na fa) (B : AI Z h b .int nb fb) {z : Int32} (n : Nat) (hz : z.toInt = n) (h1 : n ≤ na) (h2 : n ≤ nb) {n0 : Nat} (N0 : Fr n0 locs) (ge : n0 ≤ b) (W : Nat) (hW : (rest.map fun v => v.category).sum ≤ W) (hf : 1 ≤ R.frames) (hlo : W + (nativeFrameWords "java/lang/System" "arraycopy" 5 + 11) ≤ R.locals)
    (hd : decode code pc = .ok (.invokestatic index, 3)) (q : Nat) (hq : pc + 3 = q)
    (k : ∀ (T' : State) (h' : Heap) (locs' : List Loc), Stand p l e R s m args below meth c T' locs' cells slots → T'.heap = h' → Fr n0 locs' → Keep h h' [b] → AI Z h' b .int nb (fun j => if j < n then fa j else fb j) → Ends p e below s Q K N (T'.setTop (mkF m q Ls rest))) : Ends p e below s Q K N (T.setTop (mkF m pc Ls (.int z :: .int 0 :: .ref b :: .int 0 :: .ref a :: rest))) := by
  subst hq
  obtain ⟨ka, A'⟩ := A.arv
  obtain ⟨kb, B'⟩ := B.arv
  have ra : na < 2 ^ 31 := by obtain ⟨_, _, _, q, _⟩ := A; exact q
  have rb : nb < 2 ^ 31 := by obtain ⟨_, _, _, q, _⟩ := B; exact q
  have e0 : (0 : Int32).toNatClampNeg = 0 := rfl
  have en : z.toNatClampNeg = n := by rw [Int32.toNatClampNeg, hz]; rfl
  have ea : (Int32.ofNat na).toNatClampNeg = na := by rw [Int32.toNatClampNeg, Int32.toInt_ofNat_of_lt (by omega)]; rfl
  have eb : (Int32.ofNat nb).toNatClampNeg = nb := by rw [Int32.toNatClampNeg, Int32.toInt_ofNat_of_lt (by omega)]; rfl
  have hn : ¬ z < 0 := by rw [Int32.lt_iff_toInt_lt, hz, show (0 : Int32).toInt = 0 from rfl]; omega
  obtain ⟨T', h', L, X', e', N', K', B2, st⟩ := cpA X C.1 hZ hown w1 w2 w3 w4 eT A' B' (Or.inl ⟨rfl, rfl⟩) (sp := 0) (dp := 0) (nn := z) (by decide) (by decide) hn (by rw [e0, en, ea]; omega) (by rw [e0, en, eb]; omega) rfl (by rw [e0, en]; simp; omega) N0 ge (g := mkF m pc Ls (.int z :: .int 0 :: .ref b :: .int 0 :: .ref a :: rest)) rfl hml.symm rfl (hb C.2 hd) hf (W := W) (by show 2 * 0 + _ ≤ _; omega) hlo
  refine .step st (k T' h' L X' e' N' K' (AI.of_arv B2 (n := nb) (Int32.toInt_ofNat_of_lt (by omega)) fun j hj => ?_))
  rw [e0, en]
  simp only [List.take_zero, List.nil_append, Nat.zero_add]
  rw [List.getD_eq_getElem?_getD]
  by_cases g : j < n
  · rw [if_pos g, List.getElem?_append_left (by simp; omega), List.getElem?_map, List.getElem?_range g]
    simp only [Option.map_some, Option.getD_some]
    rw [List.getD_eq_getElem?_getD, List.getElem?_map, List.getElem?_range (by omega)]; rfl
  · rw [if_neg g, List.getElem?_append_right (by simp; omega), List.getElem?_drop, List.length_map, List.length_range, show n + (j - n) = j by omega, List.getElem?_map, List.getElem?_range hj]; rfl
end OwnCopy
theorem own_of {v : Int32} {j : Nat} (h : v.toInt = j) : v = Int32.ofNat j := by
  apply Int32.toInt_inj.mp
  have := rng32 v
  rw [h, Int32.toInt_ofNat_of_lt (by omega)]
theorem own_to {j : Nat} (h : j < 1000) : (Int32.ofNat j).toInt = j := Int32.toInt_ofNat_of_lt (by omega)
theorem own_add {v w : Int32} {j k : Nat} (h : v.toInt = j) (h' : w.toInt = k) (hj : j < 2000) (hk : k < 2000) : (v + w).toInt = ((j + k : Nat) : Int) := by
  have := c_iadd v w
  have r := rng32 (v + w)
  omega
theorem d2_0 : decode jdk_29_method_70_code 0 = .ok (.lload_n 0, 1) := by decide +kernel
theorem d2_1 : decode jdk_29_method_70_code 1 = .ok (.lload_n 2, 1) := by decide +kernel
theorem d2_2 : decode jdk_29_method_70_code 2 = .ok (.lcmp, 1) := by decide +kernel
theorem d2_3 : decode jdk_29_method_70_code 3 = .ok (.ifCond .gt 7, 3) := by decide +kernel
theorem d2_6 : decode jdk_29_method_70_code 6 = .ok (.lload_n 0, 1) := by decide +kernel
theorem d2_7 : decode jdk_29_method_70_code 7 = .ok (.goto 4, 3) := by decide +kernel
theorem d2_10 : decode jdk_29_method_70_code 10 = .ok (.lload_n 2, 1) := by decide +kernel
theorem d2_11 : decode jdk_29_method_70_code 11 = .ok (.lreturn, 1) := by decide +kernel
theorem pn_2 : plainFor (⟨"java/lang/Math", "min", "(JJ)J"⟩ : MethodName) = true := by first | exact plainFor_of_name (by first | (simp [plainName, overriddenIn]; done) | decide +kernel) | decide +kernel
theorem ef_2 (m : MethodId) (u0 : Int64) (u1 : Int64) : entryFrame m #[(.long u0), (.long u1)] 4 = (mkF m 0 #[.val (.long u0), .second, .val (.long u1), .second] []) := by first | (simp [entryFrame, mkF, argsToLocals, Value.category]; done) | rfl
def FMn (u0 : Int64) (u1 : Int64) : Int64 := (if u1 < u0 then u1 else u0)
set_option maxRecDepth 65536 in
set_option maxHeartbeats 40000000 in
theorem rm2 (l : Launch) (Z : State) (a0 : Array Value) (hw : ∀ d ∈ tables_1, d.before a0 Z = true) (u0 : Int64) (u1 : Int64) (h0 : Heap) : Con l Z (⟨"java/lang/Math", "min", "(JJ)J"⟩ : MethodName) jdk_29_method_70_code 4 (some .long) ({ frames := 0, cells := 0, slots := 0, locals := 0 } : Room) 0 0 [] #[(.long u0), (.long u1)] h0 (PQ (.long (FMn u0 u1)) h0) := by
  refine Con.of pn_2 ?_
  intro p e s m below meth c T C hZ hml hown hret hnm hlk X e0
  rw [ef_2]
  refine o_lloadN C X d2_0 1 rfl rfl ?_
  refine o_lloadN C X d2_1 2 rfl rfl ?_
  refine o_lcmp C X d2_2 3 rfl ?_
  by_cases q1 : u1 < u0
  · skip
    refine o_ifY C X d2_3 10 (by decide) (by decide) (o_tgt q1).1 ?_
    refine o_lloadN C X d2_10 11 rfl rfl ?_
    refine o_retJ C X hret hlk d2_11 ⟨congrArg some (congrArg _ (by rw [FMn]; simp only [if_pos q1] <;> rfl)), rfl, e0⟩ (Nat.le_refl _) (Nat.le_refl _)
  · skip
    refine o_ifN C X d2_3 6 rfl (o_fgt q1).1 ?_
    refine o_lloadN C X d2_6 7 rfl rfl ?_
    refine o_goto C X d2_7 11 (by decide) (by decide) ?_
    refine o_retJ C X hret hlk d2_11 ⟨congrArg some (congrArg _ (by rw [FMn]; simp only [if_neg q1] <;> rfl)), rfl, e0⟩ (Nat.le_refl _) (Nat.le_refl _)
theorem d3_0 : decode jdk_29_method_66_code 0 = .ok (.lload_n 0, 1) := by decide +kernel
theorem d3_1 : decode jdk_29_method_66_code 1 = .ok (.lload_n 2, 1) := by decide +kernel
theorem d3_2 : decode jdk_29_method_66_code 2 = .ok (.lcmp, 1) := by decide +kernel
theorem d3_3 : decode jdk_29_method_66_code 3 = .ok (.ifCond .lt 7, 3) := by decide +kernel
theorem d3_6 : decode jdk_29_method_66_code 6 = .ok (.lload_n 0, 1) := by decide +kernel
theorem d3_7 : decode jdk_29_method_66_code 7 = .ok (.goto 4, 3) := by decide +kernel
theorem d3_10 : decode jdk_29_method_66_code 10 = .ok (.lload_n 2, 1) := by decide +kernel
theorem d3_11 : decode jdk_29_method_66_code 11 = .ok (.lreturn, 1) := by decide +kernel
theorem pn_3 : plainFor (⟨"java/lang/Math", "max", "(JJ)J"⟩ : MethodName) = true := by first | exact plainFor_of_name (by first | (simp [plainName, overriddenIn]; done) | decide +kernel) | decide +kernel
theorem ef_3 (m : MethodId) (u0 : Int64) (u1 : Int64) : entryFrame m #[(.long u0), (.long u1)] 4 = (mkF m 0 #[.val (.long u0), .second, .val (.long u1), .second] []) := by first | (simp [entryFrame, mkF, argsToLocals, Value.category]; done) | rfl
def FMx (u0 : Int64) (u1 : Int64) : Int64 := (if u0 < u1 then u1 else u0)
set_option maxRecDepth 65536 in
set_option maxHeartbeats 40000000 in
theorem rm3 (l : Launch) (Z : State) (a0 : Array Value) (hw : ∀ d ∈ tables_1, d.before a0 Z = true) (u0 : Int64) (u1 : Int64) (h0 : Heap) : Con l Z (⟨"java/lang/Math", "max", "(JJ)J"⟩ : MethodName) jdk_29_method_66_code 4 (some .long) ({ frames := 0, cells := 0, slots := 0, locals := 0 } : Room) 0 0 [] #[(.long u0), (.long u1)] h0 (PQ (.long (FMx u0 u1)) h0) := by
  refine Con.of pn_3 ?_
  intro p e s m below meth c T C hZ hml hown hret hnm hlk X e0
  rw [ef_3]
  refine o_lloadN C X d3_0 1 rfl rfl ?_
  refine o_lloadN C X d3_1 2 rfl rfl ?_
  refine o_lcmp C X d3_2 3 rfl ?_
  by_cases q2 : u0 < u1
  · skip
    refine o_ifY C X d3_3 10 (by decide) (by decide) (o_tlt q2).1 ?_
    refine o_lloadN C X d3_10 11 rfl rfl ?_
    refine o_retJ C X hret hlk d3_11 ⟨congrArg some (congrArg _ (by rw [FMx]; simp only [if_pos q2] <;> rfl)), rfl, e0⟩ (Nat.le_refl _) (Nat.le_refl _)
  · skip
    refine o_ifN C X d3_3 6 rfl (o_flt q2).1 ?_
    refine o_lloadN C X d3_6 7 rfl rfl ?_
    refine o_goto C X d3_7 11 (by decide) (by decide) ?_
    refine o_retJ C X hret hlk d3_11 ⟨congrArg some (congrArg _ (by rw [FMx]; simp only [if_neg q2] <;> rfl)), rfl, e0⟩ (Nat.le_refl _) (Nat.le_refl _)
theorem pd_0 : parseMethodDescriptor "(JJ)J" = some ⟨[.long, .long], some .long⟩ := by decide +kernel
theorem d1_0 : decode method_2_code 0 = .ok (.ldc2_w 9, 3) := by decide +kernel
theorem d1_3 : decode method_2_code 3 = .ok (.ldc2_w 11, 3) := by decide +kernel
theorem d1_6 : decode method_2_code 6 = .ok (.lload_n 0, 1) := by decide +kernel
theorem d1_7 : decode method_2_code 7 = .ok (.invokestatic 13, 3) := by decide +kernel
theorem d1_10 : decode method_2_code 10 = .ok (.invokestatic 19, 3) := by decide +kernel
theorem d1_13 : decode method_2_code 13 = .ok (.l2i, 1) := by decide +kernel
theorem d1_14 : decode method_2_code 14 = .ok (.ireturn, 1) := by decide +kernel
theorem pn_1 : plainFor (⟨"org/triplewright/engine/IntListLowerBoundPinLaw", "clamp", "(J)I"⟩ : MethodName) = true := by first | exact plainFor_of_name (by first | (simp [plainName, overriddenIn]; done) | decide +kernel) | decide +kernel
theorem ef_1 (m : MethodId) (u0 : Int64) : entryFrame m #[(.long u0)] 2 = (mkF m 0 #[.val (.long u0), .second] []) := by first | (simp [entryFrame, mkF, argsToLocals, Value.category]; done) | rfl
def FCL (u0 : Int64) : Int32 := ((FMx (-2147483648 : Int64) (FMn (2147483647 : Int64) u0)).toInt32)
set_option maxRecDepth 65536 in
set_option maxHeartbeats 40000000 in
theorem rm1 (l : Launch) (Z : State) (a0 : Array Value) (hw : ∀ d ∈ tables_1, d.before a0 Z = true) (u0 : Int64) (h0 : Heap) : Con l Z (⟨"org/triplewright/engine/IntListLowerBoundPinLaw", "clamp", "(J)I"⟩ : MethodName) method_2_code 2 (some .int) ({ frames := 1, cells := 0, slots := 0, locals := 17 } : Room) 0 0 [] #[(.long u0)] h0 (PQ (.int (FCL u0)) h0) := by
  refine Con.of pn_1 ?_
  intro p e s m below meth c T C hZ hml hown hret hnm hlk X e0
  rw [ef_1]
  refine o_ldc2J C X hZ hown (hw _ (List.mem_of_getElem? (i := 4) rfl)) d1_0 3 rfl ?_
  refine o_ldc2J C X hZ hown (hw _ (List.mem_of_getElem? (i := 5) rfl)) d1_3 6 rfl ?_
  refine o_lloadN C X d1_6 7 rfl rfl ?_
  refine o_callP C X hZ (by rw [hml]; rfl) (own := "org/triplewright/engine/IntListLowerBoundPinLaw") (y := (⟨"java/lang/Math", "min", "(JJ)J"⟩ : MethodName)) (rf := 0) (rl := 0) hown (hw _ (List.mem_of_getElem? (i := 6) rfl)) (hw _ (List.mem_of_getElem? (i := 7) rfl)) (hw _ (List.mem_of_getElem? (i := 8) rfl)) (hw _ (List.mem_of_getElem? (i := 9) rfl)) (by decide) (asL := [(.long (2147483647 : Int64)), (.long u0)]) (rm2 l Z a0 hw (2147483647 : Int64) u0 h0) e0 pd_0 rfl rfl 2 (Nat.le_of_eq rfl) (by decide) (by decide) (by decide) (by decide) d1_7 10 rfl ?_
  intro T X e0
  refine o_callP C X hZ (by rw [hml]; rfl) (own := "org/triplewright/engine/IntListLowerBoundPinLaw") (y := (⟨"java/lang/Math", "max", "(JJ)J"⟩ : MethodName)) (rf := 0) (rl := 0) hown (hw _ (List.mem_of_getElem? (i := 10) rfl)) (hw _ (List.mem_of_getElem? (i := 11) rfl)) (hw _ (List.mem_of_getElem? (i := 8) rfl)) (hw _ (List.mem_of_getElem? (i := 12) rfl)) (by decide) (asL := [(.long (-2147483648 : Int64)), (.long (FMn (2147483647 : Int64) u0))]) (rm3 l Z a0 hw (-2147483648 : Int64) (FMn (2147483647 : Int64) u0) h0) e0 pd_0 rfl rfl 0 (Nat.le_of_eq rfl) (by decide) (by decide) (by decide) (by decide) d1_10 13 rfl ?_
  intro T X e0
  refine o_l2i C X d1_13 14 rfl ?_
  refine o_retI C X hret hlk d1_14 ⟨congrArg some (congrArg _ (by rw [FCL] <;> rfl)), rfl, e0⟩ (Nat.le_refl _) (Nat.le_refl _)
theorem d7_0 : decode method_3_code 0 = .ok (.iload_n 0, 1) := by decide +kernel
theorem d7_1 : decode method_3_code 1 = .ok (.iload_n 1, 1) := by decide +kernel
theorem d7_2 : decode method_3_code 2 = .ok (.if_icmp .ge 7, 3) := by decide +kernel
theorem d7_5 : decode method_3_code 5 = .ok (.iconst 1, 1) := by decide +kernel
theorem d7_6 : decode method_3_code 6 = .ok (.goto 4, 3) := by decide +kernel
theorem d7_9 : decode method_3_code 9 = .ok (.iconst 0, 1) := by decide +kernel
theorem d7_10 : decode method_3_code 10 = .ok (.ireturn, 1) := by decide +kernel
theorem pn_7 : plainFor (⟨"org/triplewright/engine/IntListLowerBoundPinLaw", "below", "(II)I"⟩ : MethodName) = true := by first | exact plainFor_of_name (by first | (simp [plainName, overriddenIn]; done) | decide +kernel) | decide +kernel
theorem ef_7 (m : MethodId) (u0 : Int32) (u1 : Int32) : entryFrame m #[(.int u0), (.int u1)] 2 = (mkF m 0 #[.val (.int u0), .val (.int u1)] []) := by first | (simp [entryFrame, mkF, argsToLocals, Value.category]; done) | rfl
def FB (u0 : Int32) (u1 : Int32) : Int32 := (if u0 < u1 then (1 : Int32) else (0 : Int32))
set_option maxRecDepth 65536 in
set_option maxHeartbeats 40000000 in
theorem rm7 (l : Launch) (Z : State) (a0 : Array Value) (hw : ∀ d ∈ tables_1, d.before a0 Z = true) (u0 : Int32) (u1 : Int32) (h0 : Heap) : Con l Z (⟨"org/triplewright/engine/IntListLowerBoundPinLaw", "below", "(II)I"⟩ : MethodName) method_3_code 2 (some .int) ({ frames := 0, cells := 0, slots := 0, locals := 0 } : Room) 0 0 [] #[(.int u0), (.int u1)] h0 (PQ (.int (FB u0 u1)) h0) := by
  refine Con.of pn_7 ?_
  intro p e s m below meth c T C hZ hml hown hret hnm hlk X e0
  rw [ef_7]
  refine o_iloadN C X d7_0 1 rfl rfl ?_
  refine o_iloadN C X d7_1 2 rfl rfl ?_
  by_cases q3 : u0 < u1
  · skip
    refine o_icmpN C X d7_2 5 rfl (tlt q3).2.1 ?_
    refine o_iconst C X d7_5 6 rfl (1 : Int32) (by decide) ?_
    refine o_goto C X d7_6 10 (by decide) (by decide) ?_
    refine o_retI C X hret hlk d7_10 ⟨congrArg some (congrArg _ (by rw [FB]; simp only [if_pos q3] <;> rfl)), rfl, e0⟩ (Nat.le_refl _) (Nat.le_refl _)
  · skip
    refine o_icmpY C X d7_2 9 (by decide) (by decide) (flt q3).2.1 ?_
    refine o_iconst C X d7_9 10 rfl (0 : Int32) (by decide) ?_
    refine o_retI C X hret hlk d7_10 ⟨congrArg some (congrArg _ (by rw [FB]; simp only [if_neg q3] <;> rfl)), rfl, e0⟩ (Nat.le_refl _) (Nat.le_refl _)
theorem d10_0 : decode jdk_29_method_69_code 0 = .ok (.iload_n 0, 1) := by decide +kernel
theorem d10_1 : decode jdk_29_method_69_code 1 = .ok (.iload_n 1, 1) := by decide +kernel
theorem d10_2 : decode jdk_29_method_69_code 2 = .ok (.if_icmp .gt 7, 3) := by decide +kernel
theorem d10_5 : decode jdk_29_method_69_code 5 = .ok (.iload_n 0, 1) := by decide +kernel
theorem d10_6 : decode jdk_29_method_69_code 6 = .ok (.goto 4, 3) := by decide +kernel
theorem d10_9 : decode jdk_29_method_69_code 9 = .ok (.iload_n 1, 1) := by decide +kernel
theorem d10_10 : decode jdk_29_method_69_code 10 = .ok (.ireturn, 1) := by decide +kernel
theorem pn_10 : plainFor (⟨"java/lang/Math", "min", "(II)I"⟩ : MethodName) = true := by first | exact plainFor_of_name (by first | (simp [plainName, overriddenIn]; done) | decide +kernel) | decide +kernel
theorem ef_10 (m : MethodId) (u0 : Int32) (u1 : Int32) : entryFrame m #[(.int u0), (.int u1)] 2 = (mkF m 0 #[.val (.int u0), .val (.int u1)] []) := by first | (simp [entryFrame, mkF, argsToLocals, Value.category]; done) | rfl
def FMi (u0 : Int32) (u1 : Int32) : Int32 := (if u1 < u0 then u1 else u0)
set_option maxRecDepth 65536 in
set_option maxHeartbeats 40000000 in
theorem rm10 (l : Launch) (Z : State) (a0 : Array Value) (hw : ∀ d ∈ tables_1, d.before a0 Z = true) (u0 : Int32) (u1 : Int32) (h0 : Heap) : Con l Z (⟨"java/lang/Math", "min", "(II)I"⟩ : MethodName) jdk_29_method_69_code 2 (some .int) ({ frames := 0, cells := 0, slots := 0, locals := 0 } : Room) 0 0 [] #[(.int u0), (.int u1)] h0 (PQ (.int (FMi u0 u1)) h0) := by
  refine Con.of pn_10 ?_
  intro p e s m below meth c T C hZ hml hown hret hnm hlk X e0
  rw [ef_10]
  refine o_iloadN C X d10_0 1 rfl rfl ?_
  refine o_iloadN C X d10_1 2 rfl rfl ?_
  by_cases q4 : u1 < u0
  · skip
    refine o_icmpY C X d10_2 9 (by decide) (by decide) (tlt q4).2.2.1 ?_
    refine o_iloadN C X d10_9 10 rfl rfl ?_
    refine o_retI C X hret hlk d10_10 ⟨congrArg some (congrArg _ (by rw [FMi]; simp only [if_pos q4] <;> rfl)), rfl, e0⟩ (Nat.le_refl _) (Nat.le_refl _)
  · skip
    refine o_icmpN C X d10_2 5 rfl (flt q4).2.2.1 ?_
    refine o_iloadN C X d10_5 6 rfl rfl ?_
    refine o_goto C X d10_6 10 (by decide) (by decide) ?_
    refine o_retI C X hret hlk d10_10 ⟨congrArg some (congrArg _ (by rw [FMi]; simp only [if_neg q4] <;> rfl)), rfl, e0⟩ (Nat.le_refl _) (Nat.le_refl _)
def IL (Z : State) (h : Heap) (a : Addr) (v0 v1 : Value) : Prop := Exa Z h a "org/triplewright/engine/IntList" ∧ Fld Z h a "org/triplewright/engine/IntList" "values" "[I" v0 ∧ Fld Z h a "org/triplewright/engine/IntList" "size" "I" v1
theorem IL.ext {Z : State} {h h' : Heap} {a : Addr} {v0 v1 : Value} (P : IL Z h a v0 v1) (E : Ext h h') : IL Z h' a v0 v1 := ⟨P.1.ext E, P.2.1.ext E, P.2.2.ext E⟩
theorem IL.keep {Z : State} {h h' : Heap} {a : Addr} {v0 v1 : Value} {ws : List Addr} (P : IL Z h a v0 v1) (K : Keep h h' ws) (q : a ∉ ws) : IL Z h' a v0 v1 := ⟨P.1.keep K, P.2.1.keep K q, P.2.2.keep K q⟩
theorem IL.other {Z : State} {h h' : Heap} {a : Addr} {v0 v1 : Value} {b : Addr} {sl : Nat} {w : Value} (P : IL Z h a v0 v1) (W : Wr h h' b sl w) (q : a ≠ b) : IL Z h' a v0 v1 := ⟨P.1.wr W, P.2.1.other W (Or.inl q), P.2.2.other W (Or.inl q)⟩
theorem IL.wr0 {Z : State} {h h' : Heap} {a : Addr} {v0 v1 : Value} {w : Value} {a0 : Array Value} (hw : ∀ d ∈ tables_1, d.before a0 Z = true) (P : IL Z h a v0 v1) (W : Wr h h' a (Jvm.RoadKit.slotOf Z "org/triplewright/engine/IntList" "values" "[I") w) : IL Z h' a w v1 := ⟨P.1.wr W, P.2.1.same W, P.2.2.other W (Or.inr (slot_ne (Or.inl (hw _ (List.mem_of_getElem? (i := 31) rfl))) (Or.inl (hw _ (List.mem_of_getElem? (i := 24) rfl))) (by decide) (t := .int) (t' := (.array .int)) (by decide) (by decide)))⟩
theorem IL.wr1 {Z : State} {h h' : Heap} {a : Addr} {v0 v1 : Value} {w : Value} {a0 : Array Value} (hw : ∀ d ∈ tables_1, d.before a0 Z = true) (P : IL Z h a v0 v1) (W : Wr h h' a (Jvm.RoadKit.slotOf Z "org/triplewright/engine/IntList" "size" "I") w) : IL Z h' a v0 w := ⟨P.1.wr W, P.2.1.other W (Or.inr (slot_ne (Or.inl (hw _ (List.mem_of_getElem? (i := 24) rfl))) (Or.inl (hw _ (List.mem_of_getElem? (i := 31) rfl))) (by decide) (t := (.array .int)) (t' := .int) (by decide) (by decide))), P.2.2.same W⟩
theorem d4_0 : decode prog_13_method_1_code 0 = .ok (.aload_n 0, 1) := by decide +kernel
theorem d4_1 : decode prog_13_method_1_code 1 = .ok (.invokespecial 1, 3) := by decide +kernel
theorem d4_4 : decode prog_13_method_1_code 4 = .ok (.aload_n 0, 1) := by decide +kernel
theorem d4_5 : decode prog_13_method_1_code 5 = .ok (.iconst 4, 1) := by decide +kernel
theorem d4_6 : decode prog_13_method_1_code 6 = .ok (.newarray .int, 2) := by decide +kernel
theorem d4_8 : decode prog_13_method_1_code 8 = .ok (.putfield 7, 3) := by decide +kernel
theorem d4_11 : decode prog_13_method_1_code 11 = .ok (.return_, 1) := by decide +kernel
theorem pn_4 : plainFor (⟨"org/triplewright/engine/IntList", "<init>", "()V"⟩ : MethodName) = true := by first | exact plainFor_of_name (by first | (simp [plainName, overriddenIn]; done) | decide +kernel) | decide +kernel
theorem ef_4 (m : MethodId) (a : Addr) : entryFrame m #[(.ref a)] 1 = (mkF m 0 #[.val (.ref a)] []) := by first | (simp [entryFrame, mkF, argsToLocals, Value.category]; done) | rfl
set_option maxRecDepth 65536 in
set_option maxHeartbeats 40000000 in
theorem rm4 (l : Launch) (Z : State) (a0 : Array Value) (hw : ∀ d ∈ tables_1, d.before a0 Z = true) (a : Addr) (h0 : Heap) (n0 : Nat) (Z0 : n0 ≤ h0.size) (ge_a : n0 ≤ a) (P : IL Z h0 a .null (.int 0)) : Con l Z (⟨"org/triplewright/engine/IntList", "<init>", "()V"⟩ : MethodName) prog_13_method_1_code 1 none ({ frames := 1, cells := 1, slots := 4, locals := 12 } : Room) 1 4 [] #[(.ref a)] h0 (fun v h L => ∃ r, v = none ∧ Fr n0 L ∧ Keep h0 h [a] ∧ n0 ≤ r ∧ a ≠ r ∧ IL Z h a (.ref r) (.int 0) ∧ AI Z h r .int 4 (fun _ => 0)) := by
  refine Con.of pn_4 ?_
  intro p e s m below meth c T C hZ hml hown hret hnm hlk X e0
  rw [ef_4]
  have N0 := Fr.nil n0
  refine o_aloadN C X d4_0 1 rfl rfl rfl ?_
  refine o_initO C X hZ (by rw [hml]; rfl) hown (hw _ (List.mem_of_getElem? (i := 19) rfl)) (hw _ (List.mem_of_getElem? (i := 20) rfl)) (hw _ (List.mem_of_getElem? (i := 21) rfl)) e0 0 (Nat.le_of_eq rfl) (by decide) (by decide) d4_1 4 rfl ?_
  intro T X e0
  refine o_aloadN C X d4_4 5 rfl rfl rfl ?_
  refine o_iconst C X d4_5 6 rfl (4 : Int32) (by decide) ?_
  refine o_newarrayI C X hZ (hw _ (List.mem_of_getElem? (i := 22) rfl)) e0 (4) (by decide) (4) (by decide) (by decide) (by decide) (by decide) d4_6 8 rfl ?_
  intro T h_1 r g_r X e_1 E_1 Ar_1
  have ne_a_r : a ≠ r := by rw [g_r]; exact Nat.ne_of_lt P.1.lt
  have ge_r : n0 ≤ r := by rw [g_r]; exact Z0
  have Z_1 : n0 ≤ h_1.size := Nat.le_trans Z0 E_1.1
  have K_1 := (Keep.refl h0 [a]).ext E_1
  have Pa_1 := P.ext E_1
  refine o_putF C X hZ hown (hw _ (List.mem_of_getElem? (i := 23) rfl)) Via.refl e_1 Pa_1.2.1 Pa_1.1 (Or.inl (hw _ (List.mem_of_getElem? (i := 24) rfl))) (hw _ (List.mem_of_getElem? (i := 14) rfl)) (ty := (.array .int)) (by decide) rfl rfl d4_8 11 rfl N0 ge_a ?_
  intro T h_2 locs_2 X e_2 W_2 N0
  have Pa_2 := Pa_1.wr0 hw W_2
  have Ar_2 := Ar_1.other W_2 (Ne.symm ne_a_r)
  have K_2 := K_1.wr W_2 (Or.inl (by simp))
  exact o_ret C X hret hlk d4_11 (by subst e_2; exact ⟨r, rfl, N0, K_2, ge_r, ne_a_r, Pa_2, Ar_2⟩) (by decide) (by decide)
theorem pd_1 : parseMethodDescriptor "(II)I" = some ⟨[.int, .int], some .int⟩ := by decide +kernel
theorem d9_0 : decode jdk_65_method_123_code 0 = .ok (.iload_n 1, 1) := by decide +kernel
theorem d9_1 : decode jdk_65_method_123_code 1 = .ok (.aload_n 0, 1) := by decide +kernel
theorem d9_2 : decode jdk_65_method_123_code 2 = .ok (.arraylength, 1) := by decide +kernel
theorem d9_3 : decode jdk_65_method_123_code 3 = .ok (.if_icmp .ne 11, 3) := by decide +kernel
theorem d9_6 : decode jdk_65_method_123_code 6 = .ok (.aload_n 0, 1) := by decide +kernel
theorem d9_7 : decode jdk_65_method_123_code 7 = .ok (.invokevirtual 316, 3) := by decide +kernel
theorem d9_10 : decode jdk_65_method_123_code 10 = .ok (.checkcast 317, 3) := by decide +kernel
theorem d9_13 : decode jdk_65_method_123_code 13 = .ok (.areturn, 1) := by decide +kernel
theorem d9_14 : decode jdk_65_method_123_code 14 = .ok (.iload_n 1, 1) := by decide +kernel
theorem d9_15 : decode jdk_65_method_123_code 15 = .ok (.newarray .int, 2) := by decide +kernel
theorem d9_17 : decode jdk_65_method_123_code 17 = .ok (.astore_n 2, 1) := by decide +kernel
theorem d9_18 : decode jdk_65_method_123_code 18 = .ok (.aload_n 0, 1) := by decide +kernel
theorem d9_19 : decode jdk_65_method_123_code 19 = .ok (.iconst 0, 1) := by decide +kernel
theorem d9_20 : decode jdk_65_method_123_code 20 = .ok (.aload_n 2, 1) := by decide +kernel
theorem d9_21 : decode jdk_65_method_123_code 21 = .ok (.iconst 0, 1) := by decide +kernel
theorem d9_22 : decode jdk_65_method_123_code 22 = .ok (.aload_n 0, 1) := by decide +kernel
theorem d9_23 : decode jdk_65_method_123_code 23 = .ok (.arraylength, 1) := by decide +kernel
theorem d9_24 : decode jdk_65_method_123_code 24 = .ok (.iload_n 1, 1) := by decide +kernel
theorem d9_25 : decode jdk_65_method_123_code 25 = .ok (.invokestatic 304, 3) := by decide +kernel
theorem d9_28 : decode jdk_65_method_123_code 28 = .ok (.invokestatic 150, 3) := by decide +kernel
theorem d9_31 : decode jdk_65_method_123_code 31 = .ok (.aload_n 2, 1) := by decide +kernel
theorem d9_32 : decode jdk_65_method_123_code 32 = .ok (.areturn, 1) := by decide +kernel
theorem pn_9 : plainFor (⟨"java/util/Arrays", "copyOf", "([II)[I"⟩ : MethodName) = true := by first | exact plainFor_of_name (by first | (simp [plainName, overriddenIn]; done) | decide +kernel) | decide +kernel
theorem ef_9 (m : MethodId) (r : Addr) (z : Int32) : entryFrame m #[(.ref r), (.int z)] 3 = (mkF m 0 #[.val (.ref r), .val (.int z), .unset] []) := by first | (simp [entryFrame, mkF, argsToLocals, Value.category]; done) | rfl
set_option maxRecDepth 65536 in
set_option maxHeartbeats 40000000 in
theorem rm9 (l : Launch) (Z : State) (a0 : Array Value) (hw : ∀ d ∈ tables_1, d.before a0 Z = true) (r : Addr) (z : Int32) (h0 : Heap) (n1 n2 n0 : Nat) (f : Nat → Int32) (hz : z.toInt = n2) (h12 : n1 < n2) (hn2 : n2 ≤ 16) (Z0 : n0 ≤ h0.size) (A : AI Z h0 r .int n1 f) : Con l Z (⟨"java/util/Arrays", "copyOf", "([II)[I"⟩ : MethodName) jdk_65_method_123_code 3 (some (.array .int)) ({ frames := 1, cells := 1, slots := 16, locals := 40 } : Room) 1 16 [] #[(.ref r), (.int z)] h0 (fun v h L => ∃ r', v = some (.ref r') ∧ Fr n0 L ∧ Keep h0 h [] ∧ n0 ≤ r' ∧ h0.size ≤ r' ∧ AI Z h r' .int n2 (fun j => if j < n1 then f j else 0)) := by
  refine Con.of pn_9 ?_
  intro p e s m below meth c T C hZ hml hown hret hnm hlk X e0
  rw [ef_9]
  have N0 := Fr.nil n0
  have h1 : (Int32.ofNat n1).toInt = n1 := own_to (by omega)
  refine o_iloadN C X d9_0 1 rfl rfl ?_
  refine o_aloadN C X d9_1 2 rfl rfl rfl ?_
  refine o_arraylength C X hZ e0 A (Int32.ofNat n1) rfl d9_2 3 rfl ?_
  refine o_icmpY C X d9_3 14 (by decide) (by decide) (feq (fun q => by rw [q] at hz; omega : ¬ (z = (Int32.ofNat n1)))).2 ?_
  refine o_iloadN C X d9_14 15 rfl rfl ?_
  refine o_newarrayI C X hZ (hw _ (List.mem_of_getElem? (i := 22) rfl)) e0 (n2) hz (16) hn2 (by decide) (by decide) (by decide) d9_15 17 rfl ?_
  intro T h_1 r2 g_r2 X e_1 E_1 Ar2_1
  have ne_r_r2 : r ≠ r2 := by rw [g_r2]; exact Nat.ne_of_lt A.lt
  have ge_r2 : n0 ≤ r2 := by rw [g_r2]; exact Z0
  have Z_1 : n0 ≤ h_1.size := Nat.le_trans Z0 E_1.1
  have K_1 := (Keep.refl h0 []).ext E_1
  have Ar_1 := A.ext E_1
  refine o_astoreN C X d9_17 18 rfl rfl #[.val (.ref r), .val (.int z), .val (.ref r2)] rfl ?_
  refine o_aloadN C X d9_18 19 rfl rfl rfl ?_
  refine o_iconst C X d9_19 20 rfl (0 : Int32) (by decide) ?_
  refine o_aloadN C X d9_20 21 rfl rfl rfl ?_
  refine o_iconst C X d9_21 22 rfl (0 : Int32) (by decide) ?_
  refine o_aloadN C X d9_22 23 rfl rfl rfl ?_
  refine o_arraylength C X hZ e_1 Ar_1 (Int32.ofNat n1) rfl d9_23 24 rfl ?_
  refine o_iloadN C X d9_24 25 rfl rfl ?_
  refine o_callP C X hZ (by rw [hml]; rfl) (own := "java/util/Arrays") (y := (⟨"java/lang/Math", "min", "(II)I"⟩ : MethodName)) (rf := 0) (rl := 0) hown (hw _ (List.mem_of_getElem? (i := 44) rfl)) (hw _ (List.mem_of_getElem? (i := 45) rfl)) (hw _ (List.mem_of_getElem? (i := 8) rfl)) (hw _ (List.mem_of_getElem? (i := 46) rfl)) (by decide) (asL := [(.int (Int32.ofNat n1)), (.int z)]) (rm10 l Z a0 hw (Int32.ofNat n1) z h_1) e_1 pd_1 rfl rfl 4 (Nat.le_of_eq rfl) (by decide) (by decide) (by decide) (by decide) d9_25 28 rfl ?_
  intro T X e_1
  rw [show FMi (Int32.ofNat n1) z = Int32.ofNat n1 from by unfold FMi; rw [if_neg (by rw [Int32.lt_iff_toInt_lt]; omega)]]
  refine o_arraycopy C X hZ (by rw [hml]; rfl) hown (hw _ (List.mem_of_getElem? (i := 47) rfl)) (hw _ (List.mem_of_getElem? (i := 50) rfl)) (hw _ (List.mem_of_getElem? (i := 48) rfl)) (hw _ (List.mem_of_getElem? (i := 49) rfl)) e_1 Ar_1 Ar2_1 n1 h1 (Nat.le_refl _) (by omega) N0 ge_r2 0 (Nat.le_of_eq rfl) (by decide) (by decide) d9_28 31 rfl ?_
  intro T h_2 locs_2 X e_2 N0 K_2 A_2
  refine o_aloadN C X d9_31 32 rfl rfl rfl ?_
  exact o_retA C X hret rfl hlk d9_32 (by subst e_2; exact ⟨r2, rfl, N0, K_1.trans K_2 (allS (Or.inr (Nat.le_of_eq g_r2.symm)) all0), ge_r2, (Nat.le_of_eq g_r2.symm), A_2⟩) (by decide) (by decide)
theorem d6_0 : decode prog_13_method_2_code 0 = .ok (.aload_n 0, 1) := by decide +kernel
theorem d6_1 : decode prog_13_method_2_code 1 = .ok (.getfield 13, 3) := by decide +kernel
theorem d6_4 : decode prog_13_method_2_code 4 = .ok (.aload_n 0, 1) := by decide +kernel
theorem d6_5 : decode prog_13_method_2_code 5 = .ok (.getfield 7, 3) := by decide +kernel
theorem d6_8 : decode prog_13_method_2_code 8 = .ok (.arraylength, 1) := by decide +kernel
theorem d6_9 : decode prog_13_method_2_code 9 = .ok (.if_icmp .ne 20, 3) := by decide +kernel
theorem d6_12 : decode prog_13_method_2_code 12 = .ok (.aload_n 0, 1) := by decide +kernel
theorem d6_13 : decode prog_13_method_2_code 13 = .ok (.aload_n 0, 1) := by decide +kernel
theorem d6_14 : decode prog_13_method_2_code 14 = .ok (.getfield 7, 3) := by decide +kernel
theorem d6_17 : decode prog_13_method_2_code 17 = .ok (.aload_n 0, 1) := by decide +kernel
theorem d6_18 : decode prog_13_method_2_code 18 = .ok (.getfield 13, 3) := by decide +kernel
theorem d6_21 : decode prog_13_method_2_code 21 = .ok (.iconst 2, 1) := by decide +kernel
theorem d6_22 : decode prog_13_method_2_code 22 = .ok (.imul, 1) := by decide +kernel
theorem d6_23 : decode prog_13_method_2_code 23 = .ok (.invokestatic 17, 3) := by decide +kernel
theorem d6_26 : decode prog_13_method_2_code 26 = .ok (.putfield 7, 3) := by decide +kernel
theorem d6_29 : decode prog_13_method_2_code 29 = .ok (.aload_n 0, 1) := by decide +kernel
theorem d6_30 : decode prog_13_method_2_code 30 = .ok (.getfield 7, 3) := by decide +kernel
theorem d6_33 : decode prog_13_method_2_code 33 = .ok (.aload_n 0, 1) := by decide +kernel
theorem d6_34 : decode prog_13_method_2_code 34 = .ok (.dup, 1) := by decide +kernel
theorem d6_35 : decode prog_13_method_2_code 35 = .ok (.getfield 13, 3) := by decide +kernel
theorem d6_38 : decode prog_13_method_2_code 38 = .ok (.dup_x1, 1) := by decide +kernel
theorem d6_39 : decode prog_13_method_2_code 39 = .ok (.iconst 1, 1) := by decide +kernel
theorem d6_40 : decode prog_13_method_2_code 40 = .ok (.iadd, 1) := by decide +kernel
theorem d6_41 : decode prog_13_method_2_code 41 = .ok (.putfield 13, 3) := by decide +kernel
theorem d6_44 : decode prog_13_method_2_code 44 = .ok (.iload_n 1, 1) := by decide +kernel
theorem d6_45 : decode prog_13_method_2_code 45 = .ok (.iastore, 1) := by decide +kernel
theorem d6_46 : decode prog_13_method_2_code 46 = .ok (.return_, 1) := by decide +kernel
theorem pn_6 : plainFor (⟨"org/triplewright/engine/IntList", "add", "(I)V"⟩ : MethodName) = true := by first | exact plainFor_of_name (by first | (simp [plainName, overriddenIn]; done) | decide +kernel) | decide +kernel
theorem ef_6 (m : MethodId) (a : Addr) (u0 : Int32) : entryFrame m #[(.ref a), (.int u0)] 2 = (mkF m 0 #[.val (.ref a), .val (.int u0)] []) := by first | (simp [entryFrame, mkF, argsToLocals, Value.category]; done) | rfl
set_option maxRecDepth 65536 in
set_option maxHeartbeats 40000000 in
theorem rm6 (l : Launch) (Z : State) (a0 : Array Value) (hw : ∀ d ∈ tables_1, d.before a0 Z = true) (a r : Addr) (u0 sz : Int32) (f : Nat → Int32) (n cap : Nat) (h0 : Heap) (hc : n < cap) (hcap : cap ≤ 16) (n0 : Nat) (Z0 : n0 ≤ h0.size) (ge_a : n0 ≤ a) (ge_r : n0 ≤ r) (ne : a ≠ r) (hs : sz.toInt = n) (P : IL Z h0 a (.ref r) (.int sz)) (A : AI Z h0 r .int cap f) : Con l Z (⟨"org/triplewright/engine/IntList", "add", "(I)V"⟩ : MethodName) prog_13_method_2_code 2 none ({ frames := 0, cells := 0, slots := 0, locals := 0 } : Room) 0 0 [] #[(.ref a), (.int u0)] h0 (fun v h L => ∃ r' f', v = none ∧ Fr n0 L ∧ Keep h0 h [a, r] ∧ n0 ≤ r' ∧ a ≠ r' ∧ IL Z h a (.ref r') (.int (sz + 1)) ∧ AI Z h r' .int cap f' ∧ (∀ j, j < n → f' j = f j) ∧ f' n = u0) := by
  refine Con.of pn_6 ?_
  intro p e s m below meth c T C hZ hml hown hret hnm hlk X e0
  rw [ef_6]
  have N0 := Fr.nil n0
  refine o_aloadN C X d6_0 1 rfl rfl rfl ?_
  refine o_getF C X hZ hown (hw _ (List.mem_of_getElem? (i := 30) rfl)) Via.refl e0 P.2.2 d6_1 4 rfl ?_
  intro T X e0
  refine o_aloadN C X d6_4 5 rfl rfl rfl ?_
  refine o_getF C X hZ hown (hw _ (List.mem_of_getElem? (i := 23) rfl)) Via.refl e0 P.2.1 d6_5 8 rfl ?_
  intro T X e0
  refine o_arraylength C X hZ e0 A (Int32.ofNat cap) rfl d6_8 9 rfl ?_
  refine o_icmpY C X d6_9 29 (by decide) (by decide) (feq (fun q => by have := own_to (show cap < 1000 by omega); rw [← q] at this; omega : ¬ (sz = (Int32.ofNat cap)))).2 ?_
  refine o_aloadN C X d6_29 30 rfl rfl rfl ?_
  refine o_getF C X hZ hown (hw _ (List.mem_of_getElem? (i := 23) rfl)) Via.refl e0 P.2.1 d6_30 33 rfl ?_
  intro T X e0
  refine o_aloadN C X d6_33 34 rfl rfl rfl ?_
  refine o_dup C X d6_34 35 rfl rfl ?_
  refine o_getF C X hZ hown (hw _ (List.mem_of_getElem? (i := 30) rfl)) Via.refl e0 P.2.2 d6_35 38 rfl ?_
  intro T X e0
  refine o_dup_x1 C X d6_38 39 rfl rfl rfl ?_
  refine o_iconst C X d6_39 40 rfl (1 : Int32) (by decide) ?_
  refine o_iadd C X d6_40 41 rfl ?_
  refine o_putF C X hZ hown (hw _ (List.mem_of_getElem? (i := 30) rfl)) Via.refl e0 P.2.2 P.1 (Or.inl (hw _ (List.mem_of_getElem? (i := 31) rfl))) (hw _ (List.mem_of_getElem? (i := 14) rfl)) (ty := .int) (by decide) rfl rfl d6_41 44 rfl N0 ge_a ?_
  intro T h_1 locs_1 X e_1 W_1 N0
  have Pa_1 := P.wr1 hw W_1
  have Ar_1 := A.other W_1 (Ne.symm ne)
  have K_1 := (Keep.refl h0 [a, r]).wr W_1 (Or.inl (by simp))
  have Z_1 : n0 ≤ h_1.size := by rw [W_1.size]; exact Z0
  refine o_iloadN C X d6_44 45 rfl rfl ?_
  refine o_iastore C X hZ e_1 Ar_1 (n) hs hc d6_45 46 rfl N0 ge_r ?_
  intro T h_2 locs_2 X e_2 W_2 N0 Ar_2
  have Pa_2 := Pa_1.other W_2 ne
  have Z_2 : n0 ≤ h_2.size := by rw [W_2.size]; exact Z_1
  have K_2 := K_1.wr W_2 (Or.inl (by simp))
  exact o_ret C X hret hlk d6_46 (by subst e_2; exact ⟨r, _, rfl, N0, K_2, ge_r, ne, Pa_2, Ar_2, fun j hj => by (try dsimp only); rw [if_neg (by omega)], by (try dsimp only); rw [if_pos rfl]⟩) (by decide) (by decide)
theorem pd_2 : parseMethodDescriptor "([II)[I" = some ⟨[(.array .int), .int], some (.array .int)⟩ := by decide +kernel
theorem own_mul {v : Int32} {j : Nat} (h : v.toInt = j) (hj : j < 1000) : (v * (2 : Int32)).toInt = ((j * 2 : Nat) : Int) := by
  have := c_imul v 2
  have r := rng32 (v * 2)
  rw [show (2 : Int32).toInt = 2 from rfl] at this
  omega
set_option maxRecDepth 65536 in
set_option maxHeartbeats 40000000 in
theorem rg6 (l : Launch) (Z : State) (a0 : Array Value) (hw : ∀ d ∈ tables_1, d.before a0 Z = true) (a r : Addr) (u0 sz : Int32) (f : Nat → Int32) (n : Nat) (h0 : Heap) (hc : n = 4) (n0 : Nat) (Z0 : n0 ≤ h0.size) (ge_a : n0 ≤ a) (ge_r : n0 ≤ r) (ne : a ≠ r) (hs : sz.toInt = n) (P : IL Z h0 a (.ref r) (.int sz)) (A : AI Z h0 r .int 4 f) : Con l Z (⟨"org/triplewright/engine/IntList", "add", "(I)V"⟩ : MethodName) prog_13_method_2_code 2 none ({ frames := 2, cells := 1, slots := 16, locals := 60 } : Room) 1 16 [] #[(.ref a), (.int u0)] h0 (fun v h L => ∃ r' f', v = none ∧ Fr n0 L ∧ Keep h0 h [a, r] ∧ n0 ≤ r' ∧ a ≠ r' ∧ IL Z h a (.ref r') (.int (sz + 1)) ∧ AI Z h r' .int 8 f' ∧ (∀ j, j < n → f' j = f j) ∧ f' n = u0) := by
  refine Con.of pn_6 ?_
  intro p e s m below meth c T C hZ hml hown hret hnm hlk X e0
  rw [ef_6]
  have N0 := Fr.nil n0
  refine o_aloadN C X d6_0 1 rfl rfl rfl ?_
  refine o_getF C X hZ hown (hw _ (List.mem_of_getElem? (i := 30) rfl)) Via.refl e0 P.2.2 d6_1 4 rfl ?_
  intro T X e0
  refine o_aloadN C X d6_4 5 rfl rfl rfl ?_
  refine o_getF C X hZ hown (hw _ (List.mem_of_getElem? (i := 23) rfl)) Via.refl e0 P.2.1 d6_5 8 rfl ?_
  intro T X e0
  refine o_arraylength C X hZ e0 A (4 : Int32) rfl d6_8 9 rfl ?_
  refine o_icmpN C X d6_9 12 rfl (teq (Int32.toInt_inj.mp (by rw [hs, hc]; rfl) : sz = (4 : Int32))).2 ?_
  refine o_aloadN C X d6_12 13 rfl rfl rfl ?_
  refine o_aloadN C X d6_13 14 rfl rfl rfl ?_
  refine o_getF C X hZ hown (hw _ (List.mem_of_getElem? (i := 23) rfl)) Via.refl e0 P.2.1 d6_14 17 rfl ?_
  intro T X e0
  refine o_aloadN C X d6_17 18 rfl rfl rfl ?_
  refine o_getF C X hZ hown (hw _ (List.mem_of_getElem? (i := 30) rfl)) Via.refl e0 P.2.2 d6_18 21 rfl ?_
  intro T X e0
  refine o_iconst C X d6_21 22 rfl (2 : Int32) (by decide) ?_
  refine o_imul C X d6_22 23 rfl ?_
  refine o_callS C X hZ (by rw [hml]; rfl) (own := "org/triplewright/engine/IntList") (y := (⟨"java/util/Arrays", "copyOf", "([II)[I"⟩ : MethodName)) hown (hw _ (List.mem_of_getElem? (i := 40) rfl)) (hw _ (List.mem_of_getElem? (i := 41) rfl)) (hw _ (List.mem_of_getElem? (i := 42) rfl)) (hw _ (List.mem_of_getElem? (i := 43) rfl)) (by decide) (asL := [(.ref r), (.int (sz * (2 : Int32)))]) (rm9 l Z a0 hw r (sz * (2 : Int32)) h0 4 8 n0 f (by rw [own_mul hs (by omega), hc]) (by decide) (by decide) Z0 A) e0 pd_2 rfl rfl 1 (Nat.le_of_eq rfl) (by decide) (by decide) (by decide) (by decide) d6_23 26 rfl ?_
  rintro T h_1 _ L_1 X e_1 ⟨r3, rfl, N_1, K_1, ge_r3, sz_1, A_1⟩
  have N0 := Fr.app N0 N_1
  have ne_a_r3 : a ≠ r3 := Nat.ne_of_lt (Nat.lt_of_lt_of_le P.1.lt sz_1)
  have ne_r_r3 : r ≠ r3 := Nat.ne_of_lt (Nat.lt_of_lt_of_le A.lt sz_1)
  have Pa_1 := P.keep K_1 nin0
  have Ar_1 := A.keep K_1 nin0
  have Kx_1 : Keep h0 h_1 [a, r] := (Keep.refl h0 [a, r]).trans K_1 (by simp)
  have Z_1 : n0 ≤ h_1.size := Nat.le_trans Z0 K_1.1
  refine o_putF C X hZ hown (hw _ (List.mem_of_getElem? (i := 23) rfl)) Via.refl e_1 Pa_1.2.1 Pa_1.1 (Or.inl (hw _ (List.mem_of_getElem? (i := 24) rfl))) (hw _ (List.mem_of_getElem? (i := 14) rfl)) (ty := (.array .int)) (by decide) rfl rfl d6_26 29 rfl N0 ge_a ?_
  intro T h_2 locs_2 X e_2 W_2 N0
  have Pa_2 := Pa_1.wr0 hw W_2
  have Ar_2 := Ar_1.other W_2 (Ne.symm ne)
  have Ar3_2 := A_1.other W_2 (Ne.symm ne_a_r3)
  have K_2 := Kx_1.wr W_2 (Or.inl (by simp))
  have Z_2 : n0 ≤ h_2.size := by rw [W_2.size]; exact Z_1
  refine o_aloadN C X d6_29 30 rfl rfl rfl ?_
  refine o_getF C X hZ hown (hw _ (List.mem_of_getElem? (i := 23) rfl)) Via.refl e_2 Pa_2.2.1 d6_30 33 rfl ?_
  intro T X e_2
  refine o_aloadN C X d6_33 34 rfl rfl rfl ?_
  refine o_dup C X d6_34 35 rfl rfl ?_
  refine o_getF C X hZ hown (hw _ (List.mem_of_getElem? (i := 30) rfl)) Via.refl e_2 Pa_2.2.2 d6_35 38 rfl ?_
  intro T X e_2
  refine o_dup_x1 C X d6_38 39 rfl rfl rfl ?_
  refine o_iconst C X d6_39 40 rfl (1 : Int32) (by decide) ?_
  refine o_iadd C X d6_40 41 rfl ?_
  refine o_putF C X hZ hown (hw _ (List.mem_of_getElem? (i := 30) rfl)) Via.refl e_2 Pa_2.2.2 Pa_2.1 (Or.inl (hw _ (List.mem_of_getElem? (i := 31) rfl))) (hw _ (List.mem_of_getElem? (i := 14) rfl)) (ty := .int) (by decide) rfl rfl d6_41 44 rfl N0 ge_a ?_
  intro T h_3 locs_3 X e_3 W_3 N0
  have Pa_3 := Pa_2.wr1 hw W_3
  have Ar_3 := Ar_2.other W_3 (Ne.symm ne)
  have Ar3_3 := Ar3_2.other W_3 (Ne.symm ne_a_r3)
  have K_3 := K_2.wr W_3 (Or.inl (by simp))
  have Z_3 : n0 ≤ h_3.size := by rw [W_3.size]; exact Z_2
  refine o_iloadN C X d6_44 45 rfl rfl ?_
  refine o_iastore C X hZ e_3 Ar3_3 (n) hs (by omega) d6_45 46 rfl N0 ge_r3 ?_
  intro T h_4 locs_4 X e_4 W_4 N0 Ar3_4
  have Pa_4 := Pa_3.other W_4 ne_a_r3
  have Ar_4 := Ar_3.other W_4 ne_r_r3
  have Z_4 : n0 ≤ h_4.size := by rw [W_4.size]; exact Z_3
  have K_4 := K_3.wr W_4 (Or.inr sz_1)
  exact o_ret C X hret hlk d6_46 (by subst e_4; exact ⟨r3, _, rfl, N0, K_4, ge_r3, ne_a_r3, Pa_4, Ar3_4, fun j hj => by (try dsimp only); rw [if_neg (by omega), if_pos (by omega)], by (try dsimp only); rw [if_pos rfl]⟩) (by decide) (by decide)
theorem d8_0 : decode prog_13_method_5_code 0 = .ok (.iconst 0, 1) := by decide +kernel
theorem d8_1 : decode prog_13_method_5_code 1 = .ok (.istore_n 2, 1) := by decide +kernel
theorem d8_2 : decode prog_13_method_5_code 2 = .ok (.aload_n 0, 1) := by decide +kernel
theorem d8_3 : decode prog_13_method_5_code 3 = .ok (.getfield 13, 3) := by decide +kernel
theorem d8_6 : decode prog_13_method_5_code 6 = .ok (.istore_n 3, 1) := by decide +kernel
theorem d8_7 : decode prog_13_method_5_code 7 = .ok (.iload_n 2, 1) := by decide +kernel
theorem d8_8 : decode prog_13_method_5_code 8 = .ok (.iload_n 3, 1) := by decide +kernel
theorem d8_9 : decode prog_13_method_5_code 9 = .ok (.if_icmp .ge 35, 3) := by decide +kernel
theorem d8_12 : decode prog_13_method_5_code 12 = .ok (.iload_n 2, 1) := by decide +kernel
theorem d8_13 : decode prog_13_method_5_code 13 = .ok (.iload_n 3, 1) := by decide +kernel
theorem d8_14 : decode prog_13_method_5_code 14 = .ok (.iadd, 1) := by decide +kernel
theorem d8_15 : decode prog_13_method_5_code 15 = .ok (.iconst 1, 1) := by decide +kernel
theorem d8_16 : decode prog_13_method_5_code 16 = .ok (.iushr, 1) := by decide +kernel
theorem d8_17 : decode prog_13_method_5_code 17 = .ok (.istore 4, 2) := by decide +kernel
theorem d8_19 : decode prog_13_method_5_code 19 = .ok (.aload_n 0, 1) := by decide +kernel
theorem d8_20 : decode prog_13_method_5_code 20 = .ok (.getfield 7, 3) := by decide +kernel
theorem d8_23 : decode prog_13_method_5_code 23 = .ok (.iload 4, 2) := by decide +kernel
theorem d8_25 : decode prog_13_method_5_code 25 = .ok (.iaload, 1) := by decide +kernel
theorem d8_26 : decode prog_13_method_5_code 26 = .ok (.iload_n 1, 1) := by decide +kernel
theorem d8_27 : decode prog_13_method_5_code 27 = .ok (.if_icmp .ge 11, 3) := by decide +kernel
theorem d8_30 : decode prog_13_method_5_code 30 = .ok (.iload 4, 2) := by decide +kernel
theorem d8_32 : decode prog_13_method_5_code 32 = .ok (.iconst 1, 1) := by decide +kernel
theorem d8_33 : decode prog_13_method_5_code 33 = .ok (.iadd, 1) := by decide +kernel
theorem d8_34 : decode prog_13_method_5_code 34 = .ok (.istore_n 2, 1) := by decide +kernel
theorem d8_35 : decode prog_13_method_5_code 35 = .ok (.goto 6, 3) := by decide +kernel
theorem d8_38 : decode prog_13_method_5_code 38 = .ok (.iload 4, 2) := by decide +kernel
theorem d8_40 : decode prog_13_method_5_code 40 = .ok (.istore_n 3, 1) := by decide +kernel
theorem d8_41 : decode prog_13_method_5_code 41 = .ok (.goto (-34), 3) := by decide +kernel
theorem d8_44 : decode prog_13_method_5_code 44 = .ok (.iload_n 2, 1) := by decide +kernel
theorem d8_45 : decode prog_13_method_5_code 45 = .ok (.ireturn, 1) := by decide +kernel
theorem pn_8 : plainFor (⟨"org/triplewright/engine/IntList", "lowerBound", "(I)I"⟩ : MethodName) = true := by first | exact plainFor_of_name (by first | (simp [plainName, overriddenIn]; done) | decide +kernel) | decide +kernel
theorem ef_8 (m : MethodId) (a : Addr) (q0 : Int32) : entryFrame m #[(.ref a), (.int q0)] 5 = (mkF m 0 #[.val (.ref a), .val (.int q0), .unset, .unset, .unset] []) := by first | (simp [entryFrame, mkF, argsToLocals, Value.category]; done) | rfl
def QLB (f : Nat → Int32) (q0 : Int32) (n : Nat) (h0 : Heap) : Option Value → Heap → List Loc → Prop := fun v h L => ∃ t, t ≤ n ∧ v = some (.int (Int32.ofNat t)) ∧ L = [] ∧ h = h0 ∧ (∀ i, i < t → f i < q0) ∧ (∀ i, t ≤ i → i < n → ¬ f i < q0)
theorem own_mid {u v : Int32} {lo hi : Nat} (hu : u.toInt = lo) (hv : v.toInt = hi) (h1 : lo < 1000) (h2 : hi < 1000) : (ushr (u + v) (1 : Int32)).toInt = (((lo + hi) / 2 : Nat) : Int) := by
  have := c_iushr (u + v) 1 1 (by decide) (by decide)
  rw [own_add hu hv (by omega) (by omega)] at this
  have e : (ushr (u + v) (1 : Int32)).toInt = _ := this
  rw [e]; omega
set_option maxRecDepth 65536 in
set_option maxHeartbeats 40000000 in
theorem loop1 {p : Program} {l : Launch} {e : Env} {R : Room} {s : State} {m : MethodId} {args : Array Value} {below : List Frame} {meth : Method} {c : Code} {Z : State} {a0 : Array Value} {h0 : Heap} (hw : ∀ d ∈ tables_1, d.before a0 Z = true) (a r : Addr) (q0 sz : Int32) (f : Nat → Int32) (n cap : Nat) (hn : n ≤ cap) (hcap : cap ≤ 16) (hsort : ∀ i j, i ≤ j → j < n → ¬ f j < f i) (P : IL Z h0 a (.ref r) (.int sz)) (A : AI Z h0 r .int cap f) (C : Cx p c prog_13_method_5_code) (hZ : Z.Warmed39 s.vm) (hown : s.vm.findClass "org/triplewright/engine/IntList" = some m.cls) (hret : meth.sig.returnType = some .int) (hlk : meth.locks = false) :
    ∀ (k lo hi : Nat) (u v : Int32) (d : Slot) (T : State), u.toInt = lo → v.toInt = hi → hi - lo ≤ k → lo ≤ hi → hi ≤ n → One d → (∀ i, i < lo → f i < q0) → (∀ i, hi ≤ i → i < n → ¬ f i < q0) → Stand p l e R s m args below meth c T [] 0 0 → T.heap = h0 →
      Ends p e below s (QLB f q0 n h0) 0 0 (T.setTop (mkF m 7 #[.val (.ref a), .val (.int q0), .val (.int u), .val (.int v), d] [])) := by
  intro k
  induction k with
  | zero =>
    intro lo hi u v d T hu hv hk h1 h2 hd g1 g2 X e0
    have q : ¬ u < v := by rw [Int32.lt_iff_toInt_lt]; omega
    refine o_iloadN C X d8_7 8 rfl rfl ?_
    refine o_iloadN C X d8_8 9 rfl rfl ?_
    refine o_icmpY C X d8_9 44 (by decide) (by decide) (flt q).2.1 ?_
    refine o_iloadN C X d8_44 45 rfl rfl ?_
    exact o_retI C X hret hlk d8_45 ⟨lo, by omega, congrArg some (congrArg _ (own_of hu)), rfl, e0, g1, fun i hi hin => g2 i (by omega) hin⟩ (Nat.le_refl _) (Nat.le_refl _)
  | succ k ih =>
    intro lo hi u v d T hu hv hk h1 h2 hd g1 g2 X e0
    by_cases q : u < v
    rotate_left
    · skip
      have : ¬ lo < hi := by rw [Int32.lt_iff_toInt_lt] at q; omega
      refine o_iloadN C X d8_7 8 rfl rfl ?_
      refine o_iloadN C X d8_8 9 rfl rfl ?_
      refine o_icmpY C X d8_9 44 (by decide) (by decide) (flt q).2.1 ?_
      refine o_iloadN C X d8_44 45 rfl rfl ?_
      exact o_retI C X hret hlk d8_45 ⟨lo, by omega, congrArg some (congrArg _ (own_of hu)), rfl, e0, g1, fun i hi hin => g2 i (by omega) hin⟩ (Nat.le_refl _) (Nat.le_refl _)
    have hlt : lo < hi := by rw [Int32.lt_iff_toInt_lt] at q; omega
    have hm := own_mid hu hv (by omega) (by omega)
    refine o_iloadN C X d8_7 8 rfl rfl ?_
    refine o_iloadN C X d8_8 9 rfl rfl ?_
    refine o_icmpN C X d8_9 12 rfl (tlt q).2.1 ?_
    refine o_iloadN C X d8_12 13 rfl rfl ?_
    refine o_iloadN C X d8_13 14 rfl rfl ?_
    refine o_iadd C X d8_14 15 rfl ?_
    refine o_iconst C X d8_15 16 rfl (1 : Int32) (by decide) ?_
    refine o_iushr C X d8_16 17 rfl ?_
    refine o_istore C X d8_17 19 rfl #[.val (.ref a), .val (.int q0), .val (.int u), .val (.int v), .val (.int (ushr (u + v) (1 : Int32)))] (by rcases hd with rfl | ⟨z, rfl, hz⟩ <;> first | rfl | (cases z <;> first | rfl | (simp [Value.category] at hz))) ?_
    generalize hmi : (ushr (u + v) (1 : Int32)) = mi
    rw [hmi] at hm
    refine o_aloadN C X d8_19 20 rfl rfl rfl ?_
    refine o_getF C X hZ hown (hw _ (List.mem_of_getElem? (i := 23) rfl)) Via.refl e0 P.2.1 d8_20 23 rfl ?_
    intro T X e0
    refine o_iload C X d8_23 25 rfl rfl ?_
    refine o_iaload C X hZ e0 A ((lo + hi) / 2) hm (by omega) d8_25 26 rfl ?_
    refine o_iloadN C X d8_26 27 rfl rfl ?_
    by_cases g : (f ((lo + hi) / 2)) < q0
    · skip
      refine o_icmpN C X d8_27 30 rfl (tlt g).2.1 ?_
      refine o_iload C X d8_30 32 rfl rfl ?_
      refine o_iconst C X d8_32 33 rfl (1 : Int32) (by decide) ?_
      refine o_iadd C X d8_33 34 rfl ?_
      refine o_istoreN C X d8_34 35 rfl #[.val (.ref a), .val (.int q0), .val (.int (mi + (1 : Int32))), .val (.int v), .val (.int mi)] rfl ?_
      refine o_goto C X d8_35 41 (by decide) (by decide) ?_
      refine o_goto C X d8_41 7 (by decide) (by decide) ?_
      exact ih ((lo + hi) / 2 + 1) hi _ _ _ T (own_add hm rfl (by omega) (by omega)) hv (by omega) (by omega) h2 (One.val rfl) (fun i hi' => by
        have := hsort i ((lo + hi) / 2) (by omega) (by omega)
        rw [Int32.lt_iff_toInt_lt] at this g ⊢; omega) g2 X e0
    · skip
      refine o_icmpY C X d8_27 38 (by decide) (by decide) (flt g).2.1 ?_
      refine o_iload C X d8_38 40 rfl rfl ?_
      refine o_istoreN C X d8_40 41 rfl #[.val (.ref a), .val (.int q0), .val (.int u), .val (.int mi), .val (.int mi)] rfl ?_
      refine o_goto C X d8_41 7 (by decide) (by decide) ?_
      exact ih lo ((lo + hi) / 2) _ _ _ T hu hm (by omega) (by omega) (by omega) (One.val rfl) g1 (fun i hi' hin => by
        have := hsort ((lo + hi) / 2) i hi' hin
        rw [Int32.lt_iff_toInt_lt] at this g ⊢; omega) X e0
set_option maxRecDepth 65536 in
set_option maxHeartbeats 40000000 in
theorem rm8 (l : Launch) (Z : State) (a0 : Array Value) (hw : ∀ d ∈ tables_1, d.before a0 Z = true) (a r : Addr) (q0 sz : Int32) (f : Nat → Int32) (n cap : Nat) (h0 : Heap) (hn : n ≤ cap) (hcap : cap ≤ 16) (hs : sz.toInt = n) (hsort : ∀ i j, i ≤ j → j < n → ¬ f j < f i) (P : IL Z h0 a (.ref r) (.int sz)) (A : AI Z h0 r .int cap f) : Con l Z (⟨"org/triplewright/engine/IntList", "lowerBound", "(I)I"⟩ : MethodName) prog_13_method_5_code 5 (some .int) ({ frames := 0, cells := 0, slots := 0, locals := 0 } : Room) 0 0 [] #[(.ref a), (.int q0)] h0 (QLB f q0 n h0) := by
  refine Con.of pn_8 ?_
  intro p e s m below meth c T C hZ hml hown hret hnm hlk X e0
  rw [ef_8]
  refine o_iconst C X d8_0 1 rfl (0 : Int32) (by decide) ?_
  refine o_istoreN C X d8_1 2 rfl #[.val (.ref a), .val (.int q0), .val (.int (0 : Int32)), .unset, .unset] rfl ?_
  refine o_aloadN C X d8_2 3 rfl rfl rfl ?_
  refine o_getF C X hZ hown (hw _ (List.mem_of_getElem? (i := 30) rfl)) Via.refl e0 P.2.2 d8_3 6 rfl ?_
  intro T X e0
  refine o_istoreN C X d8_6 7 rfl #[.val (.ref a), .val (.int q0), .val (.int (0 : Int32)), .val (.int sz), .unset] rfl ?_
  exact loop1 hw a r q0 sz f n cap hn hcap hsort P A C hZ hown hret hlk n 0 n _ _ _ T rfl hs (by omega) (by omega) (Nat.le_refl _) One.u (fun i hi => absurd hi (Nat.not_lt_zero _)) (fun i h1 h2 => absurd h2 (by omega)) X e0
def SM (vs : Nat → Int32) (q0 : Int32) : Nat → Int32
  | 0 => 0
  | k + 1 => SM vs q0 k + FB (vs k) q0
theorem own_sum (vs : Nat → Int32) (q0 : Int32) : ∀ k t, t ≤ k → (∀ i, i < t → vs i < q0) → (∀ i, t ≤ i → i < k → ¬ vs i < q0) → Int32.ofNat t = SM vs q0 k := by
  intro k
  induction k with
  | zero => intro t h _ _; obtain rfl : t = 0 := by omega
            rfl
  | succ k ih =>
    intro t h h1 h2
    rw [SM]
    by_cases q : t = k + 1
    · subst q
      rw [← ih k (Nat.le_refl _) (fun i hi => h1 i (by omega)) (fun i h3 h4 => absurd h4 (by omega)), FB, if_pos (h1 k (by omega))]
      exact Int32.ofNat_add k 1
    · rw [← ih t (by omega) h1 (fun i h3 h4 => h2 i h3 (by omega)), FB, if_neg (h2 k (by omega) (by omega)), Int32.add_zero]
theorem own_cl (x : Int64) : (FCL x).toInt = if 2147483647 < x.toInt then 2147483647 else if x.toInt < -2147483648 then -2147483648 else x.toInt := by
  have k1 : (2147483647 : Int64).toInt = 2147483647 := by decide
  have k2 : (-2147483648 : Int64).toInt = -2147483648 := by decide
  have r := rng64 x
  have c1 := c_l2i x
  have c2 := rng32 x.toInt32
  unfold FCL FMx FMn
  simp only [Int64.lt_iff_toInt_lt, k1, k2]
  by_cases h1 : x.toInt < 2147483647
  · simp only [if_pos h1]
    by_cases h2 : -2147483648 < x.toInt
    · rw [if_pos h2, if_neg (by omega), if_neg (by omega)]; omega
    · rw [if_neg h2, if_neg (by omega)]
      by_cases h3 : x.toInt < -2147483648
      · rw [if_pos h3]; decide
      · rw [if_neg h3, show x.toInt = -2147483648 by omega]; decide
  · simp only [if_neg h1, k1]
    rw [if_pos (by decide)]
    by_cases h3 : 2147483647 < x.toInt
    · rw [if_pos h3]; decide
    · rw [if_neg h3, if_neg (by omega), show x.toInt = 2147483647 by omega]; decide
theorem own_mono {x y : Int64} (h : x.toInt ≤ y.toInt) : ¬ FCL y < FCL x := by
  rw [Int32.lt_iff_toInt_lt, own_cl, own_cl]
  (repeat' split) <;> omega
theorem own_step {x : Int64} {z : Int32} {k : Int} (h1 : -2147483648 ≤ x.toInt) (h2 : x.toInt ≤ 2147483647 + k) (h3 : 0 ≤ k) (h4 : k ≤ 100) : x.toInt ≤ (x + (z &&& (7 : Int32)).toInt64).toInt ∧ (x + (z &&& (7 : Int32)).toInt64).toInt ≤ 2147483647 + (k + 7) := by
  have a := c_mask z 7 3 (by decide) (by decide)
  have b := c_ladd x (z &&& (7 : Int32)).toInt64
  have r := rng64 (x + (z &&& (7 : Int32)).toInt64)
  rw [c_i2l] at b
  omega
def VT (s0 s1 s2 s3 s4 s5 s6 : Int64) (j : Nat) : Int64 := if j = 0 then s0 else if j = 1 then s1 else if j = 2 then s2 else if j = 3 then s3 else if j = 4 then s4 else if j = 5 then s5 else s6
def VS (s0 s1 s2 s3 s4 s5 s6 : Int64) (j : Nat) : Int32 := FCL (VT s0 s1 s2 s3 s4 s5 s6 j)
def Up (s0 s1 s2 s3 s4 s5 s6 : Int64) : Prop := s0.toInt ≤ s1.toInt ∧ s1.toInt ≤ s2.toInt ∧ s2.toInt ≤ s3.toInt ∧ s3.toInt ≤ s4.toInt ∧ s4.toInt ≤ s5.toInt ∧ s5.toInt ≤ s6.toInt
theorem own_sort {s0 s1 s2 s3 s4 s5 s6 : Int64} (h : Up s0 s1 s2 s3 s4 s5 s6) : ∀ i j, i ≤ j → j < 7 → ¬ VS s0 s1 s2 s3 s4 s5 s6 j < VS s0 s1 s2 s3 s4 s5 s6 i := by
  intro i j hij hj
  obtain ⟨h0, h1, h2, h3, h4, h5⟩ := h
  apply own_mono
  unfold VT
  (repeat' split) <;> omega
theorem own_k (x : Int32) : (x &&& (7 : Int32)) = 0 ∨ (x &&& (7 : Int32)) = 1 ∨ (x &&& (7 : Int32)) = 2 ∨ (x &&& (7 : Int32)) = 3 ∨ (x &&& (7 : Int32)) = 4 ∨ (x &&& (7 : Int32)) = 5 ∨ (x &&& (7 : Int32)) = 6 ∨ (x &&& (7 : Int32)) = 7 := by
  have h := c_mask x 7 3 (by decide) (by decide)
  simp only [← Int32.toInt_inj, show (0 : Int32).toInt = 0 from rfl, show (1 : Int32).toInt = 1 from rfl, show (2 : Int32).toInt = 2 from rfl, show (3 : Int32).toInt = 3 from rfl, show (4 : Int32).toInt = 4 from rfl, show (5 : Int32).toInt = 5 from rfl, show (6 : Int32).toInt = 6 from rfl, show (7 : Int32).toInt = 7 from rfl]
  omega
theorem pd_3 : parseMethodDescriptor "(I)V" = some ⟨[.int], none⟩ := by decide +kernel
theorem pd_4 : parseMethodDescriptor "(I)I" = some ⟨[.int], some .int⟩ := by decide +kernel
theorem pd_5 : parseMethodDescriptor "(J)I" = some ⟨[.long], some .int⟩ := by decide +kernel
theorem pd_6 : parseMethodDescriptor "()V" = some ⟨[], none⟩ := by decide +kernel
set_option maxRecDepth 65536 in
set_option maxHeartbeats 40000000 in
theorem rest0 {p : Program} {l : Launch} {e : Env} {s : State} {m : MethodId} {args : Array Value} {below : List Frame} {meth : Method} {c : Code} {Z : State} {a0 : Array Value} {h0 : Heap} {T : State} (hw : ∀ d ∈ tables_1, d.before a0 Z = true) (x0 x1 x2 x3 : Int32) (s0 s1 s2 s3 s4 s5 s6 : Int64) (qq : Int32) (n0 : Nat) (Z0 : n0 ≤ h0.size) (hup : Up s0 s1 s2 s3 s4 s5 s6) (C : Cx p c code) (hZ : Z.Warmed39 s.vm) (hml : c.maxLocals = maxLocals) (hown : s.vm.findClass "org/triplewright/engine/IntListLowerBoundPinLaw" = some m.cls) (hret : meth.sig.returnType = ret) (hlk : meth.locks = false) (N0 : Fr n0 []) (X : Stand p l e room_1 s m args below meth c T [] 0 0) (e0 : T.heap = h0) : Ends p e below s (fun v _ L => v = some (.int 1) ∧ Fr n0 L) 16 128 (T.setTop (mkF m 160 #[.val (.int x0), .val (.int x1), .val (.int x2), .val (.int x3), .val (.int (x3 &&& (7 : Int32))), .val (.long s0), .second, .val (.long s1), .second, .val (.long s2), .second, .val (.long s3), .second, .val (.long s4), .second, .val (.long s5), .second, .val (.long s6), .second, .val (.int (FCL s0)), .val (.int (FCL s1)), .val (.int (FCL s2)), .val (.int (FCL s3)), .val (.int (FCL s4)), .val (.int (FCL s5)), .val (.int (FCL s6)), .val (.int qq), .unset, .unset] [])) := by
  have hso := own_sort hup
  rcases own_k x3 with hk | hk | hk | hk | hk | hk | hk | hk
  · rw [hk]
    refine o_new C X hZ hown (hw _ (List.mem_of_getElem? (i := 13) rfl)) (hw _ (List.mem_of_getElem? (i := 14) rfl)) (hw _ (List.mem_of_getElem? (i := 15) rfl)) e0 at_160 (by decide) (by decide) 163 rfl ?_
    intro T h_1 a g_a X e_1 E_1 A_1 D_1
    have ge_a : n0 ≤ a := by rw [g_a]; exact Z0
    have Z_1 : n0 ≤ h_1.size := Nat.le_trans Z0 E_1.1
    have Pa_1 : IL Z h_1 a .null (.int (0 : Int32)) := ⟨A_1, D_1 (Or.inl (hw _ (List.mem_of_getElem? (i := 24) rfl))) (ty := (.array .int)) (by decide), D_1 (Or.inl (hw _ (List.mem_of_getElem? (i := 31) rfl))) (ty := .int) (by decide)⟩
    refine o_dup C X at_163 164 rfl rfl ?_
    refine o_callI C X hZ (by rw [hml]; rfl) (own := "org/triplewright/engine/IntListLowerBoundPinLaw") (y := (⟨"org/triplewright/engine/IntList", "<init>", "()V"⟩ : MethodName)) hown rfl (hw _ (List.mem_of_getElem? (i := 16) rfl)) (hw _ (List.mem_of_getElem? (i := 17) rfl)) (hw _ (List.mem_of_getElem? (i := 15) rfl)) (hw _ (List.mem_of_getElem? (i := 18) rfl)) (by decide) (asL := []) (a := a) (rm4 l Z a0 hw a h_1 n0 Z_1 ge_a Pa_1) e_1 pd_6 rfl rfl 1 (Nat.le_of_eq rfl) (by decide) (by decide) (by decide) (by decide) at_164 167 rfl ?_
    rintro T h_2 _ L_2 X e_2 ⟨r_2, rfl, N_2, K_2, ge_2, ne_2, P_2, A_2⟩
    have N0 := Fr.app N0 N_2
    have Z_2 : n0 ≤ h_2.size := Nat.le_trans Z_1 K_2.1
    refine o_astore C X at_167 169 rfl rfl #[.val (.int x0), .val (.int x1), .val (.int x2), .val (.int x3), .val (.int (0 : Int32)), .val (.long s0), .second, .val (.long s1), .second, .val (.long s2), .second, .val (.long s3), .second, .val (.long s4), .second, .val (.long s5), .second, .val (.long s6), .second, .val (.int (FCL s0)), .val (.int (FCL s1)), .val (.int (FCL s2)), .val (.int (FCL s3)), .val (.int (FCL s4)), .val (.int (FCL s5)), .val (.int (FCL s6)), .val (.int qq), .val (.ref a), .unset] rfl ?_
    refine o_iload C X at_169 171 rfl rfl ?_
    obtain ⟨f00, hf, A00⟩ : ∃ f : Nat → Int32, (∀ j, j < 0 → f j = VS s0 s1 s2 s3 s4 s5 s6 j) ∧ AI Z h_2 r_2 .int 4 f := ⟨_, fun j hj => absurd hj (Nat.not_lt_zero _), A_2⟩
    refine o_ifY C X at_171 181 (by decide) (by decide) ((if0 _ _).trans (flt (by decide : ¬ ((0 : Int32) < (0 : Int32)))).2.2.2) ?_
    refine o_iload C X at_181 183 rfl rfl ?_
    refine o_iconst C X at_183 184 rfl (1 : Int32) (by decide) ?_
    refine o_icmpY C X at_184 194 (by decide) (by decide) (flt (by decide : ¬ ((1 : Int32) < (0 : Int32)))).2.2.2 ?_
    refine o_iload C X at_194 196 rfl rfl ?_
    refine o_iconst C X at_196 197 rfl (2 : Int32) (by decide) ?_
    refine o_icmpY C X at_197 207 (by decide) (by decide) (flt (by decide : ¬ ((2 : Int32) < (0 : Int32)))).2.2.2 ?_
    refine o_iload C X at_207 209 rfl rfl ?_
    refine o_iconst C X at_209 210 rfl (3 : Int32) (by decide) ?_
    refine o_icmpY C X at_210 220 (by decide) (by decide) (flt (by decide : ¬ ((3 : Int32) < (0 : Int32)))).2.2.2 ?_
    refine o_iload C X at_220 222 rfl rfl ?_
    refine o_iconst C X at_222 223 rfl (4 : Int32) (by decide) ?_
    refine o_icmpY C X at_223 233 (by decide) (by decide) (flt (by decide : ¬ ((4 : Int32) < (0 : Int32)))).2.2.2 ?_
    refine o_iload C X at_233 235 rfl rfl ?_
    refine o_iconst C X at_235 236 rfl (5 : Int32) (by decide) ?_
    refine o_icmpY C X at_236 246 (by decide) (by decide) (flt (by decide : ¬ ((5 : Int32) < (0 : Int32)))).2.2.2 ?_
    refine o_iload C X at_246 248 rfl rfl ?_
    refine o_bipush C X at_248 250 rfl (6 : Int32) (by decide) ?_
    refine o_icmpY C X at_250 260 (by decide) (by decide) (flt (by decide : ¬ ((6 : Int32) < (0 : Int32)))).2.2.2 ?_
    refine o_iconst C X at_260 261 rfl (0 : Int32) (by decide) ?_
    refine o_istore C X at_261 263 rfl #[.val (.int x0), .val (.int x1), .val (.int x2), .val (.int x3), .val (.int (0 : Int32)), .val (.long s0), .second, .val (.long s1), .second, .val (.long s2), .second, .val (.long s3), .second, .val (.long s4), .second, .val (.long s5), .second, .val (.long s6), .second, .val (.int (FCL s0)), .val (.int (FCL s1)), .val (.int (FCL s2)), .val (.int (FCL s3)), .val (.int (FCL s4)), .val (.int (FCL s5)), .val (.int (FCL s6)), .val (.int qq), .val (.ref a), .val (.int (0 : Int32))] rfl ?_
    refine o_iload C X at_263 265 rfl rfl ?_
    refine o_ifY C X at_265 280 (by decide) (by decide) ((if0 _ _).trans (flt (by decide : ¬ ((0 : Int32) < (0 : Int32)))).2.2.2) ?_
    refine o_iload C X at_280 282 rfl rfl ?_
    refine o_iconst C X at_282 283 rfl (1 : Int32) (by decide) ?_
    refine o_icmpY C X at_283 298 (by decide) (by decide) (flt (by decide : ¬ ((1 : Int32) < (0 : Int32)))).2.2.2 ?_
    refine o_iload C X at_298 300 rfl rfl ?_
    refine o_iconst C X at_300 301 rfl (2 : Int32) (by decide) ?_
    refine o_icmpY C X at_301 316 (by decide) (by decide) (flt (by decide : ¬ ((2 : Int32) < (0 : Int32)))).2.2.2 ?_
    refine o_iload C X at_316 318 rfl rfl ?_
    refine o_iconst C X at_318 319 rfl (3 : Int32) (by decide) ?_
    refine o_icmpY C X at_319 334 (by decide) (by decide) (flt (by decide : ¬ ((3 : Int32) < (0 : Int32)))).2.2.2 ?_
    refine o_iload C X at_334 336 rfl rfl ?_
    refine o_iconst C X at_336 337 rfl (4 : Int32) (by decide) ?_
    refine o_icmpY C X at_337 352 (by decide) (by decide) (flt (by decide : ¬ ((4 : Int32) < (0 : Int32)))).2.2.2 ?_
    refine o_iload C X at_352 354 rfl rfl ?_
    refine o_iconst C X at_354 355 rfl (5 : Int32) (by decide) ?_
    refine o_icmpY C X at_355 370 (by decide) (by decide) (flt (by decide : ¬ ((5 : Int32) < (0 : Int32)))).2.2.2 ?_
    refine o_iload C X at_370 372 rfl rfl ?_
    refine o_bipush C X at_372 374 rfl (6 : Int32) (by decide) ?_
    refine o_icmpY C X at_374 389 (by decide) (by decide) (flt (by decide : ¬ ((6 : Int32) < (0 : Int32)))).2.2.2 ?_
    refine o_aload C X at_389 391 rfl rfl rfl ?_
    refine o_iload C X at_391 393 rfl rfl ?_
    refine o_callV C X hZ (by rw [hml]; rfl) (own := "org/triplewright/engine/IntListLowerBoundPinLaw") (y := (⟨"org/triplewright/engine/IntList", "lowerBound", "(I)I"⟩ : MethodName)) hown (hw _ (List.mem_of_getElem? (i := 35) rfl)) (hw _ (List.mem_of_getElem? (i := 36) rfl)) (hw _ (List.mem_of_getElem? (i := 38) rfl)) (hw _ (List.mem_of_getElem? (i := 37) rfl)) (hw _ (List.mem_of_getElem? (i := 15) rfl)) (hw _ (List.mem_of_getElem? (i := 39) rfl)) (by decide) (asL := [(.int qq)]) (a := a) (rm8 l Z a0 hw a r_2 qq (0 : Int32) f00 0 4 h_2 (by decide) (by decide) rfl (fun i j h1 h2 => by rw [hf i (by omega), hf j h2]; exact hso i j h1 (by omega)) P_2 A00) e_2 P_2.1 pd_4 rfl rfl 0 (Nat.le_of_eq rfl) (by decide) (by decide) (by decide) (by decide) at_393 396 rfl ?_
    rintro T h_3 _ L_3 X e_3 ⟨t_3, ht_3, rfl, rfl, hh_3, p_3, q_3⟩
    have N0 : Fr n0 _ := Fr.app N0 (Fr.nil n0)
    refine o_iload C X at_396 398 rfl rfl ?_
    refine o_icmpN C X at_398 401 rfl (teq (own_sum (VS s0 s1 s2 s3 s4 s5 s6) qq 0 t_3 ht_3 (fun i hi => by rw [← hf i (by omega)]; exact p_3 i hi) (fun i h1 h2 => by rw [← hf i h2]; exact q_3 i h1 h2) : (Int32.ofNat t_3) = (0 : Int32))).2 ?_
    refine o_iconst C X at_401 402 rfl (1 : Int32) (by decide) ?_
    refine o_goto C X at_402 406 (by decide) (by decide) ?_
    exact o_retN C X hret (by simp) hlk at_406 ⟨congrArg some (congrArg _ (rfl)), N0⟩ (by decide) (by decide)
  · rw [hk]
    refine o_new C X hZ hown (hw _ (List.mem_of_getElem? (i := 13) rfl)) (hw _ (List.mem_of_getElem? (i := 14) rfl)) (hw _ (List.mem_of_getElem? (i := 15) rfl)) e0 at_160 (by decide) (by decide) 163 rfl ?_
    intro T h_1 a g_a X e_1 E_1 A_1 D_1
    have ge_a : n0 ≤ a := by rw [g_a]; exact Z0
    have Z_1 : n0 ≤ h_1.size := Nat.le_trans Z0 E_1.1
    have Pa_1 : IL Z h_1 a .null (.int (0 : Int32)) := ⟨A_1, D_1 (Or.inl (hw _ (List.mem_of_getElem? (i := 24) rfl))) (ty := (.array .int)) (by decide), D_1 (Or.inl (hw _ (List.mem_of_getElem? (i := 31) rfl))) (ty := .int) (by decide)⟩
    refine o_dup C X at_163 164 rfl rfl ?_
    refine o_callI C X hZ (by rw [hml]; rfl) (own := "org/triplewright/engine/IntListLowerBoundPinLaw") (y := (⟨"org/triplewright/engine/IntList", "<init>", "()V"⟩ : MethodName)) hown rfl (hw _ (List.mem_of_getElem? (i := 16) rfl)) (hw _ (List.mem_of_getElem? (i := 17) rfl)) (hw _ (List.mem_of_getElem? (i := 15) rfl)) (hw _ (List.mem_of_getElem? (i := 18) rfl)) (by decide) (asL := []) (a := a) (rm4 l Z a0 hw a h_1 n0 Z_1 ge_a Pa_1) e_1 pd_6 rfl rfl 1 (Nat.le_of_eq rfl) (by decide) (by decide) (by decide) (by decide) at_164 167 rfl ?_
    rintro T h_2 _ L_2 X e_2 ⟨r_2, rfl, N_2, K_2, ge_2, ne_2, P_2, A_2⟩
    have N0 := Fr.app N0 N_2
    have Z_2 : n0 ≤ h_2.size := Nat.le_trans Z_1 K_2.1
    refine o_astore C X at_167 169 rfl rfl #[.val (.int x0), .val (.int x1), .val (.int x2), .val (.int x3), .val (.int (1 : Int32)), .val (.long s0), .second, .val (.long s1), .second, .val (.long s2), .second, .val (.long s3), .second, .val (.long s4), .second, .val (.long s5), .second, .val (.long s6), .second, .val (.int (FCL s0)), .val (.int (FCL s1)), .val (.int (FCL s2)), .val (.int (FCL s3)), .val (.int (FCL s4)), .val (.int (FCL s5)), .val (.int (FCL s6)), .val (.int qq), .val (.ref a), .unset] rfl ?_
    refine o_iload C X at_169 171 rfl rfl ?_
    obtain ⟨f00, hf, A00⟩ : ∃ f : Nat → Int32, (∀ j, j < 0 → f j = VS s0 s1 s2 s3 s4 s5 s6 j) ∧ AI Z h_2 r_2 .int 4 f := ⟨_, fun j hj => absurd hj (Nat.not_lt_zero _), A_2⟩
    refine o_ifN C X at_171 174 rfl ((if0 _ _).trans (tlt (by decide : (0 : Int32) < (1 : Int32))).2.2.2) ?_
    refine o_aload C X at_174 176 rfl rfl rfl ?_
    refine o_iload C X at_176 178 rfl rfl ?_
    refine o_callV C X hZ (by rw [hml]; rfl) (own := "org/triplewright/engine/IntListLowerBoundPinLaw") (y := (⟨"org/triplewright/engine/IntList", "add", "(I)V"⟩ : MethodName)) hown (hw _ (List.mem_of_getElem? (i := 25) rfl)) (hw _ (List.mem_of_getElem? (i := 26) rfl)) (hw _ (List.mem_of_getElem? (i := 28) rfl)) (hw _ (List.mem_of_getElem? (i := 27) rfl)) (hw _ (List.mem_of_getElem? (i := 15) rfl)) (hw _ (List.mem_of_getElem? (i := 29) rfl)) (by decide) (asL := [(.int (FCL s0))]) (a := a) (rm6 l Z a0 hw a r_2 (FCL s0) (0 : Int32) f00 0 4 h_2 (by decide) (by decide) n0 Z_2 ge_a ge_2 ne_2 rfl P_2 A00) e_2 P_2.1 pd_3 rfl rfl 0 (Nat.le_of_eq rfl) (by decide) (by decide) (by decide) (by decide) at_178 181 rfl ?_
    rintro T h_3 _ L_3 X e_3 ⟨r_3, f_3, rfl, N_3, K_3, ge_3, ne_3, P_3, A_3, u_3, v_3⟩
    have N0 := Fr.app N0 N_3
    have Z_3 : n0 ≤ h_3.size := Nat.le_trans Z_2 K_3.1
    have hf_3 : ∀ j, j < 1 → f_3 j = VS s0 s1 s2 s3 s4 s5 s6 j := fun j hj => by
      by_cases g : j < 0
      · rw [u_3 j g]; exact hf j g
      · obtain rfl : j = 0 := by omega
        exact v_3
    rw [show ((0 : Int32) + 1 : Int32) = (1 : Int32) from by decide] at P_3
    refine o_iload C X at_181 183 rfl rfl ?_
    refine o_iconst C X at_183 184 rfl (1 : Int32) (by decide) ?_
    refine o_icmpY C X at_184 194 (by decide) (by decide) (flt (by decide : ¬ ((1 : Int32) < (1 : Int32)))).2.2.2 ?_
    refine o_iload C X at_194 196 rfl rfl ?_
    refine o_iconst C X at_196 197 rfl (2 : Int32) (by decide) ?_
    refine o_icmpY C X at_197 207 (by decide) (by decide) (flt (by decide : ¬ ((2 : Int32) < (1 : Int32)))).2.2.2 ?_
    refine o_iload C X at_207 209 rfl rfl ?_
    refine o_iconst C X at_209 210 rfl (3 : Int32) (by decide) ?_
    refine o_icmpY C X at_210 220 (by decide) (by decide) (flt (by decide : ¬ ((3 : Int32) < (1 : Int32)))).2.2.2 ?_
    refine o_iload C X at_220 222 rfl rfl ?_
    refine o_iconst C X at_222 223 rfl (4 : Int32) (by decide) ?_
    refine o_icmpY C X at_223 233 (by decide) (by decide) (flt (by decide : ¬ ((4 : Int32) < (1 : Int32)))).2.2.2 ?_
    refine o_iload C X at_233 235 rfl rfl ?_
    refine o_iconst C X at_235 236 rfl (5 : Int32) (by decide) ?_
    refine o_icmpY C X at_236 246 (by decide) (by decide) (flt (by decide : ¬ ((5 : Int32) < (1 : Int32)))).2.2.2 ?_
    refine o_iload C X at_246 248 rfl rfl ?_
    refine o_bipush C X at_248 250 rfl (6 : Int32) (by decide) ?_
    refine o_icmpY C X at_250 260 (by decide) (by decide) (flt (by decide : ¬ ((6 : Int32) < (1 : Int32)))).2.2.2 ?_
    refine o_iconst C X at_260 261 rfl (0 : Int32) (by decide) ?_
    refine o_istore C X at_261 263 rfl #[.val (.int x0), .val (.int x1), .val (.int x2), .val (.int x3), .val (.int (1 : Int32)), .val (.long s0), .second, .val (.long s1), .second, .val (.long s2), .second, .val (.long s3), .second, .val (.long s4), .second, .val (.long s5), .second, .val (.long s6), .second, .val (.int (FCL s0)), .val (.int (FCL s1)), .val (.int (FCL s2)), .val (.int (FCL s3)), .val (.int (FCL s4)), .val (.int (FCL s5)), .val (.int (FCL s6)), .val (.int qq), .val (.ref a), .val (.int (0 : Int32))] rfl ?_
    refine o_iload C X at_263 265 rfl rfl ?_
    refine o_ifN C X at_265 268 rfl ((if0 _ _).trans (tlt (by decide : (0 : Int32) < (1 : Int32))).2.2.2) ?_
    refine o_iload C X at_268 270 rfl rfl ?_
    refine o_iload C X at_270 272 rfl rfl ?_
    refine o_iload C X at_272 274 rfl rfl ?_
    refine o_callP C X hZ (by rw [hml]; rfl) (own := "org/triplewright/engine/IntListLowerBoundPinLaw") (y := (⟨"org/triplewright/engine/IntListLowerBoundPinLaw", "below", "(II)I"⟩ : MethodName)) (rf := 0) (rl := 0) hown (hw _ (List.mem_of_getElem? (i := 32) rfl)) (hw _ (List.mem_of_getElem? (i := 33) rfl)) (hw _ (List.mem_of_getElem? (i := 2) rfl)) (hw _ (List.mem_of_getElem? (i := 34) rfl)) (by decide) (asL := [(.int (FCL s0)), (.int qq)]) (rm7 l Z a0 hw (FCL s0) qq h_3) e_3 pd_1 rfl rfl 1 (Nat.le_of_eq rfl) (by decide) (by decide) (by decide) (by decide) at_274 277 rfl ?_
    intro T X e_3
    refine o_iadd C X at_277 278 rfl ?_
    refine o_istore C X at_278 280 rfl #[.val (.int x0), .val (.int x1), .val (.int x2), .val (.int x3), .val (.int (1 : Int32)), .val (.long s0), .second, .val (.long s1), .second, .val (.long s2), .second, .val (.long s3), .second, .val (.long s4), .second, .val (.long s5), .second, .val (.long s6), .second, .val (.int (FCL s0)), .val (.int (FCL s1)), .val (.int (FCL s2)), .val (.int (FCL s3)), .val (.int (FCL s4)), .val (.int (FCL s5)), .val (.int (FCL s6)), .val (.int qq), .val (.ref a), .val (.int ((0 : Int32) + (FB (FCL s0) qq)))] rfl ?_
    refine o_iload C X at_280 282 rfl rfl ?_
    refine o_iconst C X at_282 283 rfl (1 : Int32) (by decide) ?_
    refine o_icmpY C X at_283 298 (by decide) (by decide) (flt (by decide : ¬ ((1 : Int32) < (1 : Int32)))).2.2.2 ?_
    refine o_iload C X at_298 300 rfl rfl ?_
    refine o_iconst C X at_300 301 rfl (2 : Int32) (by decide) ?_
    refine o_icmpY C X at_301 316 (by decide) (by decide) (flt (by decide : ¬ ((2 : Int32) < (1 : Int32)))).2.2.2 ?_
    refine o_iload C X at_316 318 rfl rfl ?_
    refine o_iconst C X at_318 319 rfl (3 : Int32) (by decide) ?_
    refine o_icmpY C X at_319 334 (by decide) (by decide) (flt (by decide : ¬ ((3 : Int32) < (1 : Int32)))).2.2.2 ?_
    refine o_iload C X at_334 336 rfl rfl ?_
    refine o_iconst C X at_336 337 rfl (4 : Int32) (by decide) ?_
    refine o_icmpY C X at_337 352 (by decide) (by decide) (flt (by decide : ¬ ((4 : Int32) < (1 : Int32)))).2.2.2 ?_
    refine o_iload C X at_352 354 rfl rfl ?_
    refine o_iconst C X at_354 355 rfl (5 : Int32) (by decide) ?_
    refine o_icmpY C X at_355 370 (by decide) (by decide) (flt (by decide : ¬ ((5 : Int32) < (1 : Int32)))).2.2.2 ?_
    refine o_iload C X at_370 372 rfl rfl ?_
    refine o_bipush C X at_372 374 rfl (6 : Int32) (by decide) ?_
    refine o_icmpY C X at_374 389 (by decide) (by decide) (flt (by decide : ¬ ((6 : Int32) < (1 : Int32)))).2.2.2 ?_
    refine o_aload C X at_389 391 rfl rfl rfl ?_
    refine o_iload C X at_391 393 rfl rfl ?_
    refine o_callV C X hZ (by rw [hml]; rfl) (own := "org/triplewright/engine/IntListLowerBoundPinLaw") (y := (⟨"org/triplewright/engine/IntList", "lowerBound", "(I)I"⟩ : MethodName)) hown (hw _ (List.mem_of_getElem? (i := 35) rfl)) (hw _ (List.mem_of_getElem? (i := 36) rfl)) (hw _ (List.mem_of_getElem? (i := 38) rfl)) (hw _ (List.mem_of_getElem? (i := 37) rfl)) (hw _ (List.mem_of_getElem? (i := 15) rfl)) (hw _ (List.mem_of_getElem? (i := 39) rfl)) (by decide) (asL := [(.int qq)]) (a := a) (rm8 l Z a0 hw a r_3 qq (1 : Int32) f_3 1 4 h_3 (by decide) (by decide) rfl (fun i j h1 h2 => by rw [hf_3 i (by omega), hf_3 j h2]; exact hso i j h1 (by omega)) P_3 A_3) e_3 P_3.1 pd_4 rfl rfl 0 (Nat.le_of_eq rfl) (by decide) (by decide) (by decide) (by decide) at_393 396 rfl ?_
    rintro T h_4 _ L_4 X e_4 ⟨t_4, ht_4, rfl, rfl, hh_4, p_4, q_4⟩
    have N0 : Fr n0 _ := Fr.app N0 (Fr.nil n0)
    refine o_iload C X at_396 398 rfl rfl ?_
    refine o_icmpN C X at_398 401 rfl (teq (own_sum (VS s0 s1 s2 s3 s4 s5 s6) qq 1 t_4 ht_4 (fun i hi => by rw [← hf_3 i (by omega)]; exact p_4 i hi) (fun i h1 h2 => by rw [← hf_3 i h2]; exact q_4 i h1 h2) : (Int32.ofNat t_4) = ((0 : Int32) + (FB (FCL s0) qq)))).2 ?_
    refine o_iconst C X at_401 402 rfl (1 : Int32) (by decide) ?_
    refine o_goto C X at_402 406 (by decide) (by decide) ?_
    exact o_retN C X hret (by simp) hlk at_406 ⟨congrArg some (congrArg _ (rfl)), N0⟩ (by decide) (by decide)
  · rw [hk]
    refine o_new C X hZ hown (hw _ (List.mem_of_getElem? (i := 13) rfl)) (hw _ (List.mem_of_getElem? (i := 14) rfl)) (hw _ (List.mem_of_getElem? (i := 15) rfl)) e0 at_160 (by decide) (by decide) 163 rfl ?_
    intro T h_1 a g_a X e_1 E_1 A_1 D_1
    have ge_a : n0 ≤ a := by rw [g_a]; exact Z0
    have Z_1 : n0 ≤ h_1.size := Nat.le_trans Z0 E_1.1
    have Pa_1 : IL Z h_1 a .null (.int (0 : Int32)) := ⟨A_1, D_1 (Or.inl (hw _ (List.mem_of_getElem? (i := 24) rfl))) (ty := (.array .int)) (by decide), D_1 (Or.inl (hw _ (List.mem_of_getElem? (i := 31) rfl))) (ty := .int) (by decide)⟩
    refine o_dup C X at_163 164 rfl rfl ?_
    refine o_callI C X hZ (by rw [hml]; rfl) (own := "org/triplewright/engine/IntListLowerBoundPinLaw") (y := (⟨"org/triplewright/engine/IntList", "<init>", "()V"⟩ : MethodName)) hown rfl (hw _ (List.mem_of_getElem? (i := 16) rfl)) (hw _ (List.mem_of_getElem? (i := 17) rfl)) (hw _ (List.mem_of_getElem? (i := 15) rfl)) (hw _ (List.mem_of_getElem? (i := 18) rfl)) (by decide) (asL := []) (a := a) (rm4 l Z a0 hw a h_1 n0 Z_1 ge_a Pa_1) e_1 pd_6 rfl rfl 1 (Nat.le_of_eq rfl) (by decide) (by decide) (by decide) (by decide) at_164 167 rfl ?_
    rintro T h_2 _ L_2 X e_2 ⟨r_2, rfl, N_2, K_2, ge_2, ne_2, P_2, A_2⟩
    have N0 := Fr.app N0 N_2
    have Z_2 : n0 ≤ h_2.size := Nat.le_trans Z_1 K_2.1
    refine o_astore C X at_167 169 rfl rfl #[.val (.int x0), .val (.int x1), .val (.int x2), .val (.int x3), .val (.int (2 : Int32)), .val (.long s0), .second, .val (.long s1), .second, .val (.long s2), .second, .val (.long s3), .second, .val (.long s4), .second, .val (.long s5), .second, .val (.long s6), .second, .val (.int (FCL s0)), .val (.int (FCL s1)), .val (.int (FCL s2)), .val (.int (FCL s3)), .val (.int (FCL s4)), .val (.int (FCL s5)), .val (.int (FCL s6)), .val (.int qq), .val (.ref a), .unset] rfl ?_
    refine o_iload C X at_169 171 rfl rfl ?_
    obtain ⟨f00, hf, A00⟩ : ∃ f : Nat → Int32, (∀ j, j < 0 → f j = VS s0 s1 s2 s3 s4 s5 s6 j) ∧ AI Z h_2 r_2 .int 4 f := ⟨_, fun j hj => absurd hj (Nat.not_lt_zero _), A_2⟩
    refine o_ifN C X at_171 174 rfl ((if0 _ _).trans (tlt (by decide : (0 : Int32) < (2 : Int32))).2.2.2) ?_
    refine o_aload C X at_174 176 rfl rfl rfl ?_
    refine o_iload C X at_176 178 rfl rfl ?_
    refine o_callV C X hZ (by rw [hml]; rfl) (own := "org/triplewright/engine/IntListLowerBoundPinLaw") (y := (⟨"org/triplewright/engine/IntList", "add", "(I)V"⟩ : MethodName)) hown (hw _ (List.mem_of_getElem? (i := 25) rfl)) (hw _ (List.mem_of_getElem? (i := 26) rfl)) (hw _ (List.mem_of_getElem? (i := 28) rfl)) (hw _ (List.mem_of_getElem? (i := 27) rfl)) (hw _ (List.mem_of_getElem? (i := 15) rfl)) (hw _ (List.mem_of_getElem? (i := 29) rfl)) (by decide) (asL := [(.int (FCL s0))]) (a := a) (rm6 l Z a0 hw a r_2 (FCL s0) (0 : Int32) f00 0 4 h_2 (by decide) (by decide) n0 Z_2 ge_a ge_2 ne_2 rfl P_2 A00) e_2 P_2.1 pd_3 rfl rfl 0 (Nat.le_of_eq rfl) (by decide) (by decide) (by decide) (by decide) at_178 181 rfl ?_
    rintro T h_3 _ L_3 X e_3 ⟨r_3, f_3, rfl, N_3, K_3, ge_3, ne_3, P_3, A_3, u_3, v_3⟩
    have N0 := Fr.app N0 N_3
    have Z_3 : n0 ≤ h_3.size := Nat.le_trans Z_2 K_3.1
    have hf_3 : ∀ j, j < 1 → f_3 j = VS s0 s1 s2 s3 s4 s5 s6 j := fun j hj => by
      by_cases g : j < 0
      · rw [u_3 j g]; exact hf j g
      · obtain rfl : j = 0 := by omega
        exact v_3
    rw [show ((0 : Int32) + 1 : Int32) = (1 : Int32) from by decide] at P_3
    refine o_iload C X at_181 183 rfl rfl ?_
    refine o_iconst C X at_183 184 rfl (1 : Int32) (by decide) ?_
    refine o_icmpN C X at_184 187 rfl (tlt (by decide : (1 : Int32) < (2 : Int32))).2.2.2 ?_
    refine o_aload C X at_187 189 rfl rfl rfl ?_
    refine o_iload C X at_189 191 rfl rfl ?_
    refine o_callV C X hZ (by rw [hml]; rfl) (own := "org/triplewright/engine/IntListLowerBoundPinLaw") (y := (⟨"org/triplewright/engine/IntList", "add", "(I)V"⟩ : MethodName)) hown (hw _ (List.mem_of_getElem? (i := 25) rfl)) (hw _ (List.mem_of_getElem? (i := 26) rfl)) (hw _ (List.mem_of_getElem? (i := 28) rfl)) (hw _ (List.mem_of_getElem? (i := 27) rfl)) (hw _ (List.mem_of_getElem? (i := 15) rfl)) (hw _ (List.mem_of_getElem? (i := 29) rfl)) (by decide) (asL := [(.int (FCL s1))]) (a := a) (rm6 l Z a0 hw a r_3 (FCL s1) (1 : Int32) f_3 1 4 h_3 (by decide) (by decide) n0 Z_3 ge_a ge_3 ne_3 rfl P_3 A_3) e_3 P_3.1 pd_3 rfl rfl 0 (Nat.le_of_eq rfl) (by decide) (by decide) (by decide) (by decide) at_191 194 rfl ?_
    rintro T h_4 _ L_4 X e_4 ⟨r_4, f_4, rfl, N_4, K_4, ge_4, ne_4, P_4, A_4, u_4, v_4⟩
    have N0 := Fr.app N0 N_4
    have Z_4 : n0 ≤ h_4.size := Nat.le_trans Z_3 K_4.1
    have hf_4 : ∀ j, j < 2 → f_4 j = VS s0 s1 s2 s3 s4 s5 s6 j := fun j hj => by
      by_cases g : j < 1
      · rw [u_4 j g]; exact hf_3 j g
      · obtain rfl : j = 1 := by omega
        exact v_4
    rw [show ((1 : Int32) + 1 : Int32) = (2 : Int32) from by decide] at P_4
    refine o_iload C X at_194 196 rfl rfl ?_
    refine o_iconst C X at_196 197 rfl (2 : Int32) (by decide) ?_
    refine o_icmpY C X at_197 207 (by decide) (by decide) (flt (by decide : ¬ ((2 : Int32) < (2 : Int32)))).2.2.2 ?_
    refine o_iload C X at_207 209 rfl rfl ?_
    refine o_iconst C X at_209 210 rfl (3 : Int32) (by decide) ?_
    refine o_icmpY C X at_210 220 (by decide) (by decide) (flt (by decide : ¬ ((3 : Int32) < (2 : Int32)))).2.2.2 ?_
    refine o_iload C X at_220 222 rfl rfl ?_
    refine o_iconst C X at_222 223 rfl (4 : Int32) (by decide) ?_
    refine o_icmpY C X at_223 233 (by decide) (by decide) (flt (by decide : ¬ ((4 : Int32) < (2 : Int32)))).2.2.2 ?_
    refine o_iload C X at_233 235 rfl rfl ?_
    refine o_iconst C X at_235 236 rfl (5 : Int32) (by decide) ?_
    refine o_icmpY C X at_236 246 (by decide) (by decide) (flt (by decide : ¬ ((5 : Int32) < (2 : Int32)))).2.2.2 ?_
    refine o_iload C X at_246 248 rfl rfl ?_
    refine o_bipush C X at_248 250 rfl (6 : Int32) (by decide) ?_
    refine o_icmpY C X at_250 260 (by decide) (by decide) (flt (by decide : ¬ ((6 : Int32) < (2 : Int32)))).2.2.2 ?_
    refine o_iconst C X at_260 261 rfl (0 : Int32) (by decide) ?_
    refine o_istore C X at_261 263 rfl #[.val (.int x0), .val (.int x1), .val (.int x2), .val (.int x3), .val (.int (2 : Int32)), .val (.long s0), .second, .val (.long s1), .second, .val (.long s2), .second, .val (.long s3), .second, .val (.long s4), .second, .val (.long s5), .second, .val (.long s6), .second, .val (.int (FCL s0)), .val (.int (FCL s1)), .val (.int (FCL s2)), .val (.int (FCL s3)), .val (.int (FCL s4)), .val (.int (FCL s5)), .val (.int (FCL s6)), .val (.int qq), .val (.ref a), .val (.int (0 : Int32))] rfl ?_
    refine o_iload C X at_263 265 rfl rfl ?_
    refine o_ifN C X at_265 268 rfl ((if0 _ _).trans (tlt (by decide : (0 : Int32) < (2 : Int32))).2.2.2) ?_
    refine o_iload C X at_268 270 rfl rfl ?_
    refine o_iload C X at_270 272 rfl rfl ?_
    refine o_iload C X at_272 274 rfl rfl ?_
    refine o_callP C X hZ (by rw [hml]; rfl) (own := "org/triplewright/engine/IntListLowerBoundPinLaw") (y := (⟨"org/triplewright/engine/IntListLowerBoundPinLaw", "below", "(II)I"⟩ : MethodName)) (rf := 0) (rl := 0) hown (hw _ (List.mem_of_getElem? (i := 32) rfl)) (hw _ (List.mem_of_getElem? (i := 33) rfl)) (hw _ (List.mem_of_getElem? (i := 2) rfl)) (hw _ (List.mem_of_getElem? (i := 34) rfl)) (by decide) (asL := [(.int (FCL s0)), (.int qq)]) (rm7 l Z a0 hw (FCL s0) qq h_4) e_4 pd_1 rfl rfl 1 (Nat.le_of_eq rfl) (by decide) (by decide) (by decide) (by decide) at_274 277 rfl ?_
    intro T X e_4
    refine o_iadd C X at_277 278 rfl ?_
    refine o_istore C X at_278 280 rfl #[.val (.int x0), .val (.int x1), .val (.int x2), .val (.int x3), .val (.int (2 : Int32)), .val (.long s0), .second, .val (.long s1), .second, .val (.long s2), .second, .val (.long s3), .second, .val (.long s4), .second, .val (.long s5), .second, .val (.long s6), .second, .val (.int (FCL s0)), .val (.int (FCL s1)), .val (.int (FCL s2)), .val (.int (FCL s3)), .val (.int (FCL s4)), .val (.int (FCL s5)), .val (.int (FCL s6)), .val (.int qq), .val (.ref a), .val (.int ((0 : Int32) + (FB (FCL s0) qq)))] rfl ?_
    refine o_iload C X at_280 282 rfl rfl ?_
    refine o_iconst C X at_282 283 rfl (1 : Int32) (by decide) ?_
    refine o_icmpN C X at_283 286 rfl (tlt (by decide : (1 : Int32) < (2 : Int32))).2.2.2 ?_
    refine o_iload C X at_286 288 rfl rfl ?_
    refine o_iload C X at_288 290 rfl rfl ?_
    refine o_iload C X at_290 292 rfl rfl ?_
    refine o_callP C X hZ (by rw [hml]; rfl) (own := "org/triplewright/engine/IntListLowerBoundPinLaw") (y := (⟨"org/triplewright/engine/IntListLowerBoundPinLaw", "below", "(II)I"⟩ : MethodName)) (rf := 0) (rl := 0) hown (hw _ (List.mem_of_getElem? (i := 32) rfl)) (hw _ (List.mem_of_getElem? (i := 33) rfl)) (hw _ (List.mem_of_getElem? (i := 2) rfl)) (hw _ (List.mem_of_getElem? (i := 34) rfl)) (by decide) (asL := [(.int (FCL s1)), (.int qq)]) (rm7 l Z a0 hw (FCL s1) qq h_4) e_4 pd_1 rfl rfl 1 (Nat.le_of_eq rfl) (by decide) (by decide) (by decide) (by decide) at_292 295 rfl ?_
    intro T X e_4
    refine o_iadd C X at_295 296 rfl ?_
    refine o_istore C X at_296 298 rfl #[.val (.int x0), .val (.int x1), .val (.int x2), .val (.int x3), .val (.int (2 : Int32)), .val (.long s0), .second, .val (.long s1), .second, .val (.long s2), .second, .val (.long s3), .second, .val (.long s4), .second, .val (.long s5), .second, .val (.long s6), .second, .val (.int (FCL s0)), .val (.int (FCL s1)), .val (.int (FCL s2)), .val (.int (FCL s3)), .val (.int (FCL s4)), .val (.int (FCL s5)), .val (.int (FCL s6)), .val (.int qq), .val (.ref a), .val (.int (((0 : Int32) + (FB (FCL s0) qq)) + (FB (FCL s1) qq)))] rfl ?_
    refine o_iload C X at_298 300 rfl rfl ?_
    refine o_iconst C X at_300 301 rfl (2 : Int32) (by decide) ?_
    refine o_icmpY C X at_301 316 (by decide) (by decide) (flt (by decide : ¬ ((2 : Int32) < (2 : Int32)))).2.2.2 ?_
    refine o_iload C X at_316 318 rfl rfl ?_
    refine o_iconst C X at_318 319 rfl (3 : Int32) (by decide) ?_
    refine o_icmpY C X at_319 334 (by decide) (by decide) (flt (by decide : ¬ ((3 : Int32) < (2 : Int32)))).2.2.2 ?_
    refine o_iload C X at_334 336 rfl rfl ?_
    refine o_iconst C X at_336 337 rfl (4 : Int32) (by decide) ?_
    refine o_icmpY C X at_337 352 (by decide) (by decide) (flt (by decide : ¬ ((4 : Int32) < (2 : Int32)))).2.2.2 ?_
    refine o_iload C X at_352 354 rfl rfl ?_
    refine o_iconst C X at_354 355 rfl (5 : Int32) (by decide) ?_
    refine o_icmpY C X at_355 370 (by decide) (by decide) (flt (by decide : ¬ ((5 : Int32) < (2 : Int32)))).2.2.2 ?_
    refine o_iload C X at_370 372 rfl rfl ?_
    refine o_bipush C X at_372 374 rfl (6 : Int32) (by decide) ?_
    refine o_icmpY C X at_374 389 (by decide) (by decide) (flt (by decide : ¬ ((6 : Int32) < (2 : Int32)))).2.2.2 ?_
    refine o_aload C X at_389 391 rfl rfl rfl ?_
    refine o_iload C X at_391 393 rfl rfl ?_
    refine o_callV C X hZ (by rw [hml]; rfl) (own := "org/triplewright/engine/IntListLowerBoundPinLaw") (y := (⟨"org/triplewright/engine/IntList", "lowerBound", "(I)I"⟩ : MethodName)) hown (hw _ (List.mem_of_getElem? (i := 35) rfl)) (hw _ (List.mem_of_getElem? (i := 36) rfl)) (hw _ (List.mem_of_getElem? (i := 38) rfl)) (hw _ (List.mem_of_getElem? (i := 37) rfl)) (hw _ (List.mem_of_getElem? (i := 15) rfl)) (hw _ (List.mem_of_getElem? (i := 39) rfl)) (by decide) (asL := [(.int qq)]) (a := a) (rm8 l Z a0 hw a r_4 qq (2 : Int32) f_4 2 4 h_4 (by decide) (by decide) rfl (fun i j h1 h2 => by rw [hf_4 i (by omega), hf_4 j h2]; exact hso i j h1 (by omega)) P_4 A_4) e_4 P_4.1 pd_4 rfl rfl 0 (Nat.le_of_eq rfl) (by decide) (by decide) (by decide) (by decide) at_393 396 rfl ?_
    rintro T h_5 _ L_5 X e_5 ⟨t_5, ht_5, rfl, rfl, hh_5, p_5, q_5⟩
    have N0 : Fr n0 _ := Fr.app N0 (Fr.nil n0)
    refine o_iload C X at_396 398 rfl rfl ?_
    refine o_icmpN C X at_398 401 rfl (teq (own_sum (VS s0 s1 s2 s3 s4 s5 s6) qq 2 t_5 ht_5 (fun i hi => by rw [← hf_4 i (by omega)]; exact p_5 i hi) (fun i h1 h2 => by rw [← hf_4 i h2]; exact q_5 i h1 h2) : (Int32.ofNat t_5) = (((0 : Int32) + (FB (FCL s0) qq)) + (FB (FCL s1) qq)))).2 ?_
    refine o_iconst C X at_401 402 rfl (1 : Int32) (by decide) ?_
    refine o_goto C X at_402 406 (by decide) (by decide) ?_
    exact o_retN C X hret (by simp) hlk at_406 ⟨congrArg some (congrArg _ (rfl)), N0⟩ (by decide) (by decide)
  · rw [hk]
    refine o_new C X hZ hown (hw _ (List.mem_of_getElem? (i := 13) rfl)) (hw _ (List.mem_of_getElem? (i := 14) rfl)) (hw _ (List.mem_of_getElem? (i := 15) rfl)) e0 at_160 (by decide) (by decide) 163 rfl ?_
    intro T h_1 a g_a X e_1 E_1 A_1 D_1
    have ge_a : n0 ≤ a := by rw [g_a]; exact Z0
    have Z_1 : n0 ≤ h_1.size := Nat.le_trans Z0 E_1.1
    have Pa_1 : IL Z h_1 a .null (.int (0 : Int32)) := ⟨A_1, D_1 (Or.inl (hw _ (List.mem_of_getElem? (i := 24) rfl))) (ty := (.array .int)) (by decide), D_1 (Or.inl (hw _ (List.mem_of_getElem? (i := 31) rfl))) (ty := .int) (by decide)⟩
    refine o_dup C X at_163 164 rfl rfl ?_
    refine o_callI C X hZ (by rw [hml]; rfl) (own := "org/triplewright/engine/IntListLowerBoundPinLaw") (y := (⟨"org/triplewright/engine/IntList", "<init>", "()V"⟩ : MethodName)) hown rfl (hw _ (List.mem_of_getElem? (i := 16) rfl)) (hw _ (List.mem_of_getElem? (i := 17) rfl)) (hw _ (List.mem_of_getElem? (i := 15) rfl)) (hw _ (List.mem_of_getElem? (i := 18) rfl)) (by decide) (asL := []) (a := a) (rm4 l Z a0 hw a h_1 n0 Z_1 ge_a Pa_1) e_1 pd_6 rfl rfl 1 (Nat.le_of_eq rfl) (by decide) (by decide) (by decide) (by decide) at_164 167 rfl ?_
    rintro T h_2 _ L_2 X e_2 ⟨r_2, rfl, N_2, K_2, ge_2, ne_2, P_2, A_2⟩
    have N0 := Fr.app N0 N_2
    have Z_2 : n0 ≤ h_2.size := Nat.le_trans Z_1 K_2.1
    refine o_astore C X at_167 169 rfl rfl #[.val (.int x0), .val (.int x1), .val (.int x2), .val (.int x3), .val (.int (3 : Int32)), .val (.long s0), .second, .val (.long s1), .second, .val (.long s2), .second, .val (.long s3), .second, .val (.long s4), .second, .val (.long s5), .second, .val (.long s6), .second, .val (.int (FCL s0)), .val (.int (FCL s1)), .val (.int (FCL s2)), .val (.int (FCL s3)), .val (.int (FCL s4)), .val (.int (FCL s5)), .val (.int (FCL s6)), .val (.int qq), .val (.ref a), .unset] rfl ?_
    refine o_iload C X at_169 171 rfl rfl ?_
    obtain ⟨f00, hf, A00⟩ : ∃ f : Nat → Int32, (∀ j, j < 0 → f j = VS s0 s1 s2 s3 s4 s5 s6 j) ∧ AI Z h_2 r_2 .int 4 f := ⟨_, fun j hj => absurd hj (Nat.not_lt_zero _), A_2⟩
    refine o_ifN C X at_171 174 rfl ((if0 _ _).trans (tlt (by decide : (0 : Int32) < (3 : Int32))).2.2.2) ?_
    refine o_aload C X at_174 176 rfl rfl rfl ?_
    refine o_iload C X at_176 178 rfl rfl ?_
    refine o_callV C X hZ (by rw [hml]; rfl) (own := "org/triplewright/engine/IntListLowerBoundPinLaw") (y := (⟨"org/triplewright/engine/IntList", "add", "(I)V"⟩ : MethodName)) hown (hw _ (List.mem_of_getElem? (i := 25) rfl)) (hw _ (List.mem_of_getElem? (i := 26) rfl)) (hw _ (List.mem_of_getElem? (i := 28) rfl)) (hw _ (List.mem_of_getElem? (i := 27) rfl)) (hw _ (List.mem_of_getElem? (i := 15) rfl)) (hw _ (List.mem_of_getElem? (i := 29) rfl)) (by decide) (asL := [(.int (FCL s0))]) (a := a) (rm6 l Z a0 hw a r_2 (FCL s0) (0 : Int32) f00 0 4 h_2 (by decide) (by decide) n0 Z_2 ge_a ge_2 ne_2 rfl P_2 A00) e_2 P_2.1 pd_3 rfl rfl 0 (Nat.le_of_eq rfl) (by decide) (by decide) (by decide) (by decide) at_178 181 rfl ?_
    rintro T h_3 _ L_3 X e_3 ⟨r_3, f_3, rfl, N_3, K_3, ge_3, ne_3, P_3, A_3, u_3, v_3⟩
    have N0 := Fr.app N0 N_3
    have Z_3 : n0 ≤ h_3.size := Nat.le_trans Z_2 K_3.1
    have hf_3 : ∀ j, j < 1 → f_3 j = VS s0 s1 s2 s3 s4 s5 s6 j := fun j hj => by
      by_cases g : j < 0
      · rw [u_3 j g]; exact hf j g
      · obtain rfl : j = 0 := by omega
        exact v_3
    rw [show ((0 : Int32) + 1 : Int32) = (1 : Int32) from by decide] at P_3
    refine o_iload C X at_181 183 rfl rfl ?_
    refine o_iconst C X at_183 184 rfl (1 : Int32) (by decide) ?_
    refine o_icmpN C X at_184 187 rfl (tlt (by decide : (1 : Int32) < (3 : Int32))).2.2.2 ?_
    refine o_aload C X at_187 189 rfl rfl rfl ?_
    refine o_iload C X at_189 191 rfl rfl ?_
    refine o_callV C X hZ (by rw [hml]; rfl) (own := "org/triplewright/engine/IntListLowerBoundPinLaw") (y := (⟨"org/triplewright/engine/IntList", "add", "(I)V"⟩ : MethodName)) hown (hw _ (List.mem_of_getElem? (i := 25) rfl)) (hw _ (List.mem_of_getElem? (i := 26) rfl)) (hw _ (List.mem_of_getElem? (i := 28) rfl)) (hw _ (List.mem_of_getElem? (i := 27) rfl)) (hw _ (List.mem_of_getElem? (i := 15) rfl)) (hw _ (List.mem_of_getElem? (i := 29) rfl)) (by decide) (asL := [(.int (FCL s1))]) (a := a) (rm6 l Z a0 hw a r_3 (FCL s1) (1 : Int32) f_3 1 4 h_3 (by decide) (by decide) n0 Z_3 ge_a ge_3 ne_3 rfl P_3 A_3) e_3 P_3.1 pd_3 rfl rfl 0 (Nat.le_of_eq rfl) (by decide) (by decide) (by decide) (by decide) at_191 194 rfl ?_
    rintro T h_4 _ L_4 X e_4 ⟨r_4, f_4, rfl, N_4, K_4, ge_4, ne_4, P_4, A_4, u_4, v_4⟩
    have N0 := Fr.app N0 N_4
    have Z_4 : n0 ≤ h_4.size := Nat.le_trans Z_3 K_4.1
    have hf_4 : ∀ j, j < 2 → f_4 j = VS s0 s1 s2 s3 s4 s5 s6 j := fun j hj => by
      by_cases g : j < 1
      · rw [u_4 j g]; exact hf_3 j g
      · obtain rfl : j = 1 := by omega
        exact v_4
    rw [show ((1 : Int32) + 1 : Int32) = (2 : Int32) from by decide] at P_4
    refine o_iload C X at_194 196 rfl rfl ?_
    refine o_iconst C X at_196 197 rfl (2 : Int32) (by decide) ?_
    refine o_icmpN C X at_197 200 rfl (tlt (by decide : (2 : Int32) < (3 : Int32))).2.2.2 ?_
    refine o_aload C X at_200 202 rfl rfl rfl ?_
    refine o_iload C X at_202 204 rfl rfl ?_
    refine o_callV C X hZ (by rw [hml]; rfl) (own := "org/triplewright/engine/IntListLowerBoundPinLaw") (y := (⟨"org/triplewright/engine/IntList", "add", "(I)V"⟩ : MethodName)) hown (hw _ (List.mem_of_getElem? (i := 25) rfl)) (hw _ (List.mem_of_getElem? (i := 26) rfl)) (hw _ (List.mem_of_getElem? (i := 28) rfl)) (hw _ (List.mem_of_getElem? (i := 27) rfl)) (hw _ (List.mem_of_getElem? (i := 15) rfl)) (hw _ (List.mem_of_getElem? (i := 29) rfl)) (by decide) (asL := [(.int (FCL s2))]) (a := a) (rm6 l Z a0 hw a r_4 (FCL s2) (2 : Int32) f_4 2 4 h_4 (by decide) (by decide) n0 Z_4 ge_a ge_4 ne_4 rfl P_4 A_4) e_4 P_4.1 pd_3 rfl rfl 0 (Nat.le_of_eq rfl) (by decide) (by decide) (by decide) (by decide) at_204 207 rfl ?_
    rintro T h_5 _ L_5 X e_5 ⟨r_5, f_5, rfl, N_5, K_5, ge_5, ne_5, P_5, A_5, u_5, v_5⟩
    have N0 := Fr.app N0 N_5
    have Z_5 : n0 ≤ h_5.size := Nat.le_trans Z_4 K_5.1
    have hf_5 : ∀ j, j < 3 → f_5 j = VS s0 s1 s2 s3 s4 s5 s6 j := fun j hj => by
      by_cases g : j < 2
      · rw [u_5 j g]; exact hf_4 j g
      · obtain rfl : j = 2 := by omega
        exact v_5
    rw [show ((2 : Int32) + 1 : Int32) = (3 : Int32) from by decide] at P_5
    refine o_iload C X at_207 209 rfl rfl ?_
    refine o_iconst C X at_209 210 rfl (3 : Int32) (by decide) ?_
    refine o_icmpY C X at_210 220 (by decide) (by decide) (flt (by decide : ¬ ((3 : Int32) < (3 : Int32)))).2.2.2 ?_
    refine o_iload C X at_220 222 rfl rfl ?_
    refine o_iconst C X at_222 223 rfl (4 : Int32) (by decide) ?_
    refine o_icmpY C X at_223 233 (by decide) (by decide) (flt (by decide : ¬ ((4 : Int32) < (3 : Int32)))).2.2.2 ?_
    refine o_iload C X at_233 235 rfl rfl ?_
    refine o_iconst C X at_235 236 rfl (5 : Int32) (by decide) ?_
    refine o_icmpY C X at_236 246 (by decide) (by decide) (flt (by decide : ¬ ((5 : Int32) < (3 : Int32)))).2.2.2 ?_
    refine o_iload C X at_246 248 rfl rfl ?_
    refine o_bipush C X at_248 250 rfl (6 : Int32) (by decide) ?_
    refine o_icmpY C X at_250 260 (by decide) (by decide) (flt (by decide : ¬ ((6 : Int32) < (3 : Int32)))).2.2.2 ?_
    refine o_iconst C X at_260 261 rfl (0 : Int32) (by decide) ?_
    refine o_istore C X at_261 263 rfl #[.val (.int x0), .val (.int x1), .val (.int x2), .val (.int x3), .val (.int (3 : Int32)), .val (.long s0), .second, .val (.long s1), .second, .val (.long s2), .second, .val (.long s3), .second, .val (.long s4), .second, .val (.long s5), .second, .val (.long s6), .second, .val (.int (FCL s0)), .val (.int (FCL s1)), .val (.int (FCL s2)), .val (.int (FCL s3)), .val (.int (FCL s4)), .val (.int (FCL s5)), .val (.int (FCL s6)), .val (.int qq), .val (.ref a), .val (.int (0 : Int32))] rfl ?_
    refine o_iload C X at_263 265 rfl rfl ?_
    refine o_ifN C X at_265 268 rfl ((if0 _ _).trans (tlt (by decide : (0 : Int32) < (3 : Int32))).2.2.2) ?_
    refine o_iload C X at_268 270 rfl rfl ?_
    refine o_iload C X at_270 272 rfl rfl ?_
    refine o_iload C X at_272 274 rfl rfl ?_
    refine o_callP C X hZ (by rw [hml]; rfl) (own := "org/triplewright/engine/IntListLowerBoundPinLaw") (y := (⟨"org/triplewright/engine/IntListLowerBoundPinLaw", "below", "(II)I"⟩ : MethodName)) (rf := 0) (rl := 0) hown (hw _ (List.mem_of_getElem? (i := 32) rfl)) (hw _ (List.mem_of_getElem? (i := 33) rfl)) (hw _ (List.mem_of_getElem? (i := 2) rfl)) (hw _ (List.mem_of_getElem? (i := 34) rfl)) (by decide) (asL := [(.int (FCL s0)), (.int qq)]) (rm7 l Z a0 hw (FCL s0) qq h_5) e_5 pd_1 rfl rfl 1 (Nat.le_of_eq rfl) (by decide) (by decide) (by decide) (by decide) at_274 277 rfl ?_
    intro T X e_5
    refine o_iadd C X at_277 278 rfl ?_
    refine o_istore C X at_278 280 rfl #[.val (.int x0), .val (.int x1), .val (.int x2), .val (.int x3), .val (.int (3 : Int32)), .val (.long s0), .second, .val (.long s1), .second, .val (.long s2), .second, .val (.long s3), .second, .val (.long s4), .second, .val (.long s5), .second, .val (.long s6), .second, .val (.int (FCL s0)), .val (.int (FCL s1)), .val (.int (FCL s2)), .val (.int (FCL s3)), .val (.int (FCL s4)), .val (.int (FCL s5)), .val (.int (FCL s6)), .val (.int qq), .val (.ref a), .val (.int ((0 : Int32) + (FB (FCL s0) qq)))] rfl ?_
    refine o_iload C X at_280 282 rfl rfl ?_
    refine o_iconst C X at_282 283 rfl (1 : Int32) (by decide) ?_
    refine o_icmpN C X at_283 286 rfl (tlt (by decide : (1 : Int32) < (3 : Int32))).2.2.2 ?_
    refine o_iload C X at_286 288 rfl rfl ?_
    refine o_iload C X at_288 290 rfl rfl ?_
    refine o_iload C X at_290 292 rfl rfl ?_
    refine o_callP C X hZ (by rw [hml]; rfl) (own := "org/triplewright/engine/IntListLowerBoundPinLaw") (y := (⟨"org/triplewright/engine/IntListLowerBoundPinLaw", "below", "(II)I"⟩ : MethodName)) (rf := 0) (rl := 0) hown (hw _ (List.mem_of_getElem? (i := 32) rfl)) (hw _ (List.mem_of_getElem? (i := 33) rfl)) (hw _ (List.mem_of_getElem? (i := 2) rfl)) (hw _ (List.mem_of_getElem? (i := 34) rfl)) (by decide) (asL := [(.int (FCL s1)), (.int qq)]) (rm7 l Z a0 hw (FCL s1) qq h_5) e_5 pd_1 rfl rfl 1 (Nat.le_of_eq rfl) (by decide) (by decide) (by decide) (by decide) at_292 295 rfl ?_
    intro T X e_5
    refine o_iadd C X at_295 296 rfl ?_
    refine o_istore C X at_296 298 rfl #[.val (.int x0), .val (.int x1), .val (.int x2), .val (.int x3), .val (.int (3 : Int32)), .val (.long s0), .second, .val (.long s1), .second, .val (.long s2), .second, .val (.long s3), .second, .val (.long s4), .second, .val (.long s5), .second, .val (.long s6), .second, .val (.int (FCL s0)), .val (.int (FCL s1)), .val (.int (FCL s2)), .val (.int (FCL s3)), .val (.int (FCL s4)), .val (.int (FCL s5)), .val (.int (FCL s6)), .val (.int qq), .val (.ref a), .val (.int (((0 : Int32) + (FB (FCL s0) qq)) + (FB (FCL s1) qq)))] rfl ?_
    refine o_iload C X at_298 300 rfl rfl ?_
    refine o_iconst C X at_300 301 rfl (2 : Int32) (by decide) ?_
    refine o_icmpN C X at_301 304 rfl (tlt (by decide : (2 : Int32) < (3 : Int32))).2.2.2 ?_
    refine o_iload C X at_304 306 rfl rfl ?_
    refine o_iload C X at_306 308 rfl rfl ?_
    refine o_iload C X at_308 310 rfl rfl ?_
    refine o_callP C X hZ (by rw [hml]; rfl) (own := "org/triplewright/engine/IntListLowerBoundPinLaw") (y := (⟨"org/triplewright/engine/IntListLowerBoundPinLaw", "below", "(II)I"⟩ : MethodName)) (rf := 0) (rl := 0) hown (hw _ (List.mem_of_getElem? (i := 32) rfl)) (hw _ (List.mem_of_getElem? (i := 33) rfl)) (hw _ (List.mem_of_getElem? (i := 2) rfl)) (hw _ (List.mem_of_getElem? (i := 34) rfl)) (by decide) (asL := [(.int (FCL s2)), (.int qq)]) (rm7 l Z a0 hw (FCL s2) qq h_5) e_5 pd_1 rfl rfl 1 (Nat.le_of_eq rfl) (by decide) (by decide) (by decide) (by decide) at_310 313 rfl ?_
    intro T X e_5
    refine o_iadd C X at_313 314 rfl ?_
    refine o_istore C X at_314 316 rfl #[.val (.int x0), .val (.int x1), .val (.int x2), .val (.int x3), .val (.int (3 : Int32)), .val (.long s0), .second, .val (.long s1), .second, .val (.long s2), .second, .val (.long s3), .second, .val (.long s4), .second, .val (.long s5), .second, .val (.long s6), .second, .val (.int (FCL s0)), .val (.int (FCL s1)), .val (.int (FCL s2)), .val (.int (FCL s3)), .val (.int (FCL s4)), .val (.int (FCL s5)), .val (.int (FCL s6)), .val (.int qq), .val (.ref a), .val (.int ((((0 : Int32) + (FB (FCL s0) qq)) + (FB (FCL s1) qq)) + (FB (FCL s2) qq)))] rfl ?_
    refine o_iload C X at_316 318 rfl rfl ?_
    refine o_iconst C X at_318 319 rfl (3 : Int32) (by decide) ?_
    refine o_icmpY C X at_319 334 (by decide) (by decide) (flt (by decide : ¬ ((3 : Int32) < (3 : Int32)))).2.2.2 ?_
    refine o_iload C X at_334 336 rfl rfl ?_
    refine o_iconst C X at_336 337 rfl (4 : Int32) (by decide) ?_
    refine o_icmpY C X at_337 352 (by decide) (by decide) (flt (by decide : ¬ ((4 : Int32) < (3 : Int32)))).2.2.2 ?_
    refine o_iload C X at_352 354 rfl rfl ?_
    refine o_iconst C X at_354 355 rfl (5 : Int32) (by decide) ?_
    refine o_icmpY C X at_355 370 (by decide) (by decide) (flt (by decide : ¬ ((5 : Int32) < (3 : Int32)))).2.2.2 ?_
    refine o_iload C X at_370 372 rfl rfl ?_
    refine o_bipush C X at_372 374 rfl (6 : Int32) (by decide) ?_
    refine o_icmpY C X at_374 389 (by decide) (by decide) (flt (by decide : ¬ ((6 : Int32) < (3 : Int32)))).2.2.2 ?_
    refine o_aload C X at_389 391 rfl rfl rfl ?_
    refine o_iload C X at_391 393 rfl rfl ?_
    refine o_callV C X hZ (by rw [hml]; rfl) (own := "org/triplewright/engine/IntListLowerBoundPinLaw") (y := (⟨"org/triplewright/engine/IntList", "lowerBound", "(I)I"⟩ : MethodName)) hown (hw _ (List.mem_of_getElem? (i := 35) rfl)) (hw _ (List.mem_of_getElem? (i := 36) rfl)) (hw _ (List.mem_of_getElem? (i := 38) rfl)) (hw _ (List.mem_of_getElem? (i := 37) rfl)) (hw _ (List.mem_of_getElem? (i := 15) rfl)) (hw _ (List.mem_of_getElem? (i := 39) rfl)) (by decide) (asL := [(.int qq)]) (a := a) (rm8 l Z a0 hw a r_5 qq (3 : Int32) f_5 3 4 h_5 (by decide) (by decide) rfl (fun i j h1 h2 => by rw [hf_5 i (by omega), hf_5 j h2]; exact hso i j h1 (by omega)) P_5 A_5) e_5 P_5.1 pd_4 rfl rfl 0 (Nat.le_of_eq rfl) (by decide) (by decide) (by decide) (by decide) at_393 396 rfl ?_
    rintro T h_6 _ L_6 X e_6 ⟨t_6, ht_6, rfl, rfl, hh_6, p_6, q_6⟩
    have N0 : Fr n0 _ := Fr.app N0 (Fr.nil n0)
    refine o_iload C X at_396 398 rfl rfl ?_
    refine o_icmpN C X at_398 401 rfl (teq (own_sum (VS s0 s1 s2 s3 s4 s5 s6) qq 3 t_6 ht_6 (fun i hi => by rw [← hf_5 i (by omega)]; exact p_6 i hi) (fun i h1 h2 => by rw [← hf_5 i h2]; exact q_6 i h1 h2) : (Int32.ofNat t_6) = ((((0 : Int32) + (FB (FCL s0) qq)) + (FB (FCL s1) qq)) + (FB (FCL s2) qq)))).2 ?_
    refine o_iconst C X at_401 402 rfl (1 : Int32) (by decide) ?_
    refine o_goto C X at_402 406 (by decide) (by decide) ?_
    exact o_retN C X hret (by simp) hlk at_406 ⟨congrArg some (congrArg _ (rfl)), N0⟩ (by decide) (by decide)
  · rw [hk]
    refine o_new C X hZ hown (hw _ (List.mem_of_getElem? (i := 13) rfl)) (hw _ (List.mem_of_getElem? (i := 14) rfl)) (hw _ (List.mem_of_getElem? (i := 15) rfl)) e0 at_160 (by decide) (by decide) 163 rfl ?_
    intro T h_1 a g_a X e_1 E_1 A_1 D_1
    have ge_a : n0 ≤ a := by rw [g_a]; exact Z0
    have Z_1 : n0 ≤ h_1.size := Nat.le_trans Z0 E_1.1
    have Pa_1 : IL Z h_1 a .null (.int (0 : Int32)) := ⟨A_1, D_1 (Or.inl (hw _ (List.mem_of_getElem? (i := 24) rfl))) (ty := (.array .int)) (by decide), D_1 (Or.inl (hw _ (List.mem_of_getElem? (i := 31) rfl))) (ty := .int) (by decide)⟩
    refine o_dup C X at_163 164 rfl rfl ?_
    refine o_callI C X hZ (by rw [hml]; rfl) (own := "org/triplewright/engine/IntListLowerBoundPinLaw") (y := (⟨"org/triplewright/engine/IntList", "<init>", "()V"⟩ : MethodName)) hown rfl (hw _ (List.mem_of_getElem? (i := 16) rfl)) (hw _ (List.mem_of_getElem? (i := 17) rfl)) (hw _ (List.mem_of_getElem? (i := 15) rfl)) (hw _ (List.mem_of_getElem? (i := 18) rfl)) (by decide) (asL := []) (a := a) (rm4 l Z a0 hw a h_1 n0 Z_1 ge_a Pa_1) e_1 pd_6 rfl rfl 1 (Nat.le_of_eq rfl) (by decide) (by decide) (by decide) (by decide) at_164 167 rfl ?_
    rintro T h_2 _ L_2 X e_2 ⟨r_2, rfl, N_2, K_2, ge_2, ne_2, P_2, A_2⟩
    have N0 := Fr.app N0 N_2
    have Z_2 : n0 ≤ h_2.size := Nat.le_trans Z_1 K_2.1
    refine o_astore C X at_167 169 rfl rfl #[.val (.int x0), .val (.int x1), .val (.int x2), .val (.int x3), .val (.int (4 : Int32)), .val (.long s0), .second, .val (.long s1), .second, .val (.long s2), .second, .val (.long s3), .second, .val (.long s4), .second, .val (.long s5), .second, .val (.long s6), .second, .val (.int (FCL s0)), .val (.int (FCL s1)), .val (.int (FCL s2)), .val (.int (FCL s3)), .val (.int (FCL s4)), .val (.int (FCL s5)), .val (.int (FCL s6)), .val (.int qq), .val (.ref a), .unset] rfl ?_
    refine o_iload C X at_169 171 rfl rfl ?_
    obtain ⟨f00, hf, A00⟩ : ∃ f : Nat → Int32, (∀ j, j < 0 → f j = VS s0 s1 s2 s3 s4 s5 s6 j) ∧ AI Z h_2 r_2 .int 4 f := ⟨_, fun j hj => absurd hj (Nat.not_lt_zero _), A_2⟩
    refine o_ifN C X at_171 174 rfl ((if0 _ _).trans (tlt (by decide : (0 : Int32) < (4 : Int32))).2.2.2) ?_
    refine o_aload C X at_174 176 rfl rfl rfl ?_
    refine o_iload C X at_176 178 rfl rfl ?_
    refine o_callV C X hZ (by rw [hml]; rfl) (own := "org/triplewright/engine/IntListLowerBoundPinLaw") (y := (⟨"org/triplewright/engine/IntList", "add", "(I)V"⟩ : MethodName)) hown (hw _ (List.mem_of_getElem? (i := 25) rfl)) (hw _ (List.mem_of_getElem? (i := 26) rfl)) (hw _ (List.mem_of_getElem? (i := 28) rfl)) (hw _ (List.mem_of_getElem? (i := 27) rfl)) (hw _ (List.mem_of_getElem? (i := 15) rfl)) (hw _ (List.mem_of_getElem? (i := 29) rfl)) (by decide) (asL := [(.int (FCL s0))]) (a := a) (rm6 l Z a0 hw a r_2 (FCL s0) (0 : Int32) f00 0 4 h_2 (by decide) (by decide) n0 Z_2 ge_a ge_2 ne_2 rfl P_2 A00) e_2 P_2.1 pd_3 rfl rfl 0 (Nat.le_of_eq rfl) (by decide) (by decide) (by decide) (by decide) at_178 181 rfl ?_
    rintro T h_3 _ L_3 X e_3 ⟨r_3, f_3, rfl, N_3, K_3, ge_3, ne_3, P_3, A_3, u_3, v_3⟩
    have N0 := Fr.app N0 N_3
    have Z_3 : n0 ≤ h_3.size := Nat.le_trans Z_2 K_3.1
    have hf_3 : ∀ j, j < 1 → f_3 j = VS s0 s1 s2 s3 s4 s5 s6 j := fun j hj => by
      by_cases g : j < 0
      · rw [u_3 j g]; exact hf j g
      · obtain rfl : j = 0 := by omega
        exact v_3
    rw [show ((0 : Int32) + 1 : Int32) = (1 : Int32) from by decide] at P_3
    refine o_iload C X at_181 183 rfl rfl ?_
    refine o_iconst C X at_183 184 rfl (1 : Int32) (by decide) ?_
    refine o_icmpN C X at_184 187 rfl (tlt (by decide : (1 : Int32) < (4 : Int32))).2.2.2 ?_
    refine o_aload C X at_187 189 rfl rfl rfl ?_
    refine o_iload C X at_189 191 rfl rfl ?_
    refine o_callV C X hZ (by rw [hml]; rfl) (own := "org/triplewright/engine/IntListLowerBoundPinLaw") (y := (⟨"org/triplewright/engine/IntList", "add", "(I)V"⟩ : MethodName)) hown (hw _ (List.mem_of_getElem? (i := 25) rfl)) (hw _ (List.mem_of_getElem? (i := 26) rfl)) (hw _ (List.mem_of_getElem? (i := 28) rfl)) (hw _ (List.mem_of_getElem? (i := 27) rfl)) (hw _ (List.mem_of_getElem? (i := 15) rfl)) (hw _ (List.mem_of_getElem? (i := 29) rfl)) (by decide) (asL := [(.int (FCL s1))]) (a := a) (rm6 l Z a0 hw a r_3 (FCL s1) (1 : Int32) f_3 1 4 h_3 (by decide) (by decide) n0 Z_3 ge_a ge_3 ne_3 rfl P_3 A_3) e_3 P_3.1 pd_3 rfl rfl 0 (Nat.le_of_eq rfl) (by decide) (by decide) (by decide) (by decide) at_191 194 rfl ?_
    rintro T h_4 _ L_4 X e_4 ⟨r_4, f_4, rfl, N_4, K_4, ge_4, ne_4, P_4, A_4, u_4, v_4⟩
    have N0 := Fr.app N0 N_4
    have Z_4 : n0 ≤ h_4.size := Nat.le_trans Z_3 K_4.1
    have hf_4 : ∀ j, j < 2 → f_4 j = VS s0 s1 s2 s3 s4 s5 s6 j := fun j hj => by
      by_cases g : j < 1
      · rw [u_4 j g]; exact hf_3 j g
      · obtain rfl : j = 1 := by omega
        exact v_4
    rw [show ((1 : Int32) + 1 : Int32) = (2 : Int32) from by decide] at P_4
    refine o_iload C X at_194 196 rfl rfl ?_
    refine o_iconst C X at_196 197 rfl (2 : Int32) (by decide) ?_
    refine o_icmpN C X at_197 200 rfl (tlt (by decide : (2 : Int32) < (4 : Int32))).2.2.2 ?_
    refine o_aload C X at_200 202 rfl rfl rfl ?_
    refine o_iload C X at_202 204 rfl rfl ?_
    refine o_callV C X hZ (by rw [hml]; rfl) (own := "org/triplewright/engine/IntListLowerBoundPinLaw") (y := (⟨"org/triplewright/engine/IntList", "add", "(I)V"⟩ : MethodName)) hown (hw _ (List.mem_of_getElem? (i := 25) rfl)) (hw _ (List.mem_of_getElem? (i := 26) rfl)) (hw _ (List.mem_of_getElem? (i := 28) rfl)) (hw _ (List.mem_of_getElem? (i := 27) rfl)) (hw _ (List.mem_of_getElem? (i := 15) rfl)) (hw _ (List.mem_of_getElem? (i := 29) rfl)) (by decide) (asL := [(.int (FCL s2))]) (a := a) (rm6 l Z a0 hw a r_4 (FCL s2) (2 : Int32) f_4 2 4 h_4 (by decide) (by decide) n0 Z_4 ge_a ge_4 ne_4 rfl P_4 A_4) e_4 P_4.1 pd_3 rfl rfl 0 (Nat.le_of_eq rfl) (by decide) (by decide) (by decide) (by decide) at_204 207 rfl ?_
    rintro T h_5 _ L_5 X e_5 ⟨r_5, f_5, rfl, N_5, K_5, ge_5, ne_5, P_5, A_5, u_5, v_5⟩
    have N0 := Fr.app N0 N_5
    have Z_5 : n0 ≤ h_5.size := Nat.le_trans Z_4 K_5.1
    have hf_5 : ∀ j, j < 3 → f_5 j = VS s0 s1 s2 s3 s4 s5 s6 j := fun j hj => by
      by_cases g : j < 2
      · rw [u_5 j g]; exact hf_4 j g
      · obtain rfl : j = 2 := by omega
        exact v_5
    rw [show ((2 : Int32) + 1 : Int32) = (3 : Int32) from by decide] at P_5
    refine o_iload C X at_207 209 rfl rfl ?_
    refine o_iconst C X at_209 210 rfl (3 : Int32) (by decide) ?_
    refine o_icmpN C X at_210 213 rfl (tlt (by decide : (3 : Int32) < (4 : Int32))).2.2.2 ?_
    refine o_aload C X at_213 215 rfl rfl rfl ?_
    refine o_iload C X at_215 217 rfl rfl ?_
    refine o_callV C X hZ (by rw [hml]; rfl) (own := "org/triplewright/engine/IntListLowerBoundPinLaw") (y := (⟨"org/triplewright/engine/IntList", "add", "(I)V"⟩ : MethodName)) hown (hw _ (List.mem_of_getElem? (i := 25) rfl)) (hw _ (List.mem_of_getElem? (i := 26) rfl)) (hw _ (List.mem_of_getElem? (i := 28) rfl)) (hw _ (List.mem_of_getElem? (i := 27) rfl)) (hw _ (List.mem_of_getElem? (i := 15) rfl)) (hw _ (List.mem_of_getElem? (i := 29) rfl)) (by decide) (asL := [(.int (FCL s3))]) (a := a) (rm6 l Z a0 hw a r_5 (FCL s3) (3 : Int32) f_5 3 4 h_5 (by decide) (by decide) n0 Z_5 ge_a ge_5 ne_5 rfl P_5 A_5) e_5 P_5.1 pd_3 rfl rfl 0 (Nat.le_of_eq rfl) (by decide) (by decide) (by decide) (by decide) at_217 220 rfl ?_
    rintro T h_6 _ L_6 X e_6 ⟨r_6, f_6, rfl, N_6, K_6, ge_6, ne_6, P_6, A_6, u_6, v_6⟩
    have N0 := Fr.app N0 N_6
    have Z_6 : n0 ≤ h_6.size := Nat.le_trans Z_5 K_6.1
    have hf_6 : ∀ j, j < 4 → f_6 j = VS s0 s1 s2 s3 s4 s5 s6 j := fun j hj => by
      by_cases g : j < 3
      · rw [u_6 j g]; exact hf_5 j g
      · obtain rfl : j = 3 := by omega
        exact v_6
    rw [show ((3 : Int32) + 1 : Int32) = (4 : Int32) from by decide] at P_6
    refine o_iload C X at_220 222 rfl rfl ?_
    refine o_iconst C X at_222 223 rfl (4 : Int32) (by decide) ?_
    refine o_icmpY C X at_223 233 (by decide) (by decide) (flt (by decide : ¬ ((4 : Int32) < (4 : Int32)))).2.2.2 ?_
    refine o_iload C X at_233 235 rfl rfl ?_
    refine o_iconst C X at_235 236 rfl (5 : Int32) (by decide) ?_
    refine o_icmpY C X at_236 246 (by decide) (by decide) (flt (by decide : ¬ ((5 : Int32) < (4 : Int32)))).2.2.2 ?_
    refine o_iload C X at_246 248 rfl rfl ?_
    refine o_bipush C X at_248 250 rfl (6 : Int32) (by decide) ?_
    refine o_icmpY C X at_250 260 (by decide) (by decide) (flt (by decide : ¬ ((6 : Int32) < (4 : Int32)))).2.2.2 ?_
    refine o_iconst C X at_260 261 rfl (0 : Int32) (by decide) ?_
    refine o_istore C X at_261 263 rfl #[.val (.int x0), .val (.int x1), .val (.int x2), .val (.int x3), .val (.int (4 : Int32)), .val (.long s0), .second, .val (.long s1), .second, .val (.long s2), .second, .val (.long s3), .second, .val (.long s4), .second, .val (.long s5), .second, .val (.long s6), .second, .val (.int (FCL s0)), .val (.int (FCL s1)), .val (.int (FCL s2)), .val (.int (FCL s3)), .val (.int (FCL s4)), .val (.int (FCL s5)), .val (.int (FCL s6)), .val (.int qq), .val (.ref a), .val (.int (0 : Int32))] rfl ?_
    refine o_iload C X at_263 265 rfl rfl ?_
    refine o_ifN C X at_265 268 rfl ((if0 _ _).trans (tlt (by decide : (0 : Int32) < (4 : Int32))).2.2.2) ?_
    refine o_iload C X at_268 270 rfl rfl ?_
    refine o_iload C X at_270 272 rfl rfl ?_
    refine o_iload C X at_272 274 rfl rfl ?_
    refine o_callP C X hZ (by rw [hml]; rfl) (own := "org/triplewright/engine/IntListLowerBoundPinLaw") (y := (⟨"org/triplewright/engine/IntListLowerBoundPinLaw", "below", "(II)I"⟩ : MethodName)) (rf := 0) (rl := 0) hown (hw _ (List.mem_of_getElem? (i := 32) rfl)) (hw _ (List.mem_of_getElem? (i := 33) rfl)) (hw _ (List.mem_of_getElem? (i := 2) rfl)) (hw _ (List.mem_of_getElem? (i := 34) rfl)) (by decide) (asL := [(.int (FCL s0)), (.int qq)]) (rm7 l Z a0 hw (FCL s0) qq h_6) e_6 pd_1 rfl rfl 1 (Nat.le_of_eq rfl) (by decide) (by decide) (by decide) (by decide) at_274 277 rfl ?_
    intro T X e_6
    refine o_iadd C X at_277 278 rfl ?_
    refine o_istore C X at_278 280 rfl #[.val (.int x0), .val (.int x1), .val (.int x2), .val (.int x3), .val (.int (4 : Int32)), .val (.long s0), .second, .val (.long s1), .second, .val (.long s2), .second, .val (.long s3), .second, .val (.long s4), .second, .val (.long s5), .second, .val (.long s6), .second, .val (.int (FCL s0)), .val (.int (FCL s1)), .val (.int (FCL s2)), .val (.int (FCL s3)), .val (.int (FCL s4)), .val (.int (FCL s5)), .val (.int (FCL s6)), .val (.int qq), .val (.ref a), .val (.int ((0 : Int32) + (FB (FCL s0) qq)))] rfl ?_
    refine o_iload C X at_280 282 rfl rfl ?_
    refine o_iconst C X at_282 283 rfl (1 : Int32) (by decide) ?_
    refine o_icmpN C X at_283 286 rfl (tlt (by decide : (1 : Int32) < (4 : Int32))).2.2.2 ?_
    refine o_iload C X at_286 288 rfl rfl ?_
    refine o_iload C X at_288 290 rfl rfl ?_
    refine o_iload C X at_290 292 rfl rfl ?_
    refine o_callP C X hZ (by rw [hml]; rfl) (own := "org/triplewright/engine/IntListLowerBoundPinLaw") (y := (⟨"org/triplewright/engine/IntListLowerBoundPinLaw", "below", "(II)I"⟩ : MethodName)) (rf := 0) (rl := 0) hown (hw _ (List.mem_of_getElem? (i := 32) rfl)) (hw _ (List.mem_of_getElem? (i := 33) rfl)) (hw _ (List.mem_of_getElem? (i := 2) rfl)) (hw _ (List.mem_of_getElem? (i := 34) rfl)) (by decide) (asL := [(.int (FCL s1)), (.int qq)]) (rm7 l Z a0 hw (FCL s1) qq h_6) e_6 pd_1 rfl rfl 1 (Nat.le_of_eq rfl) (by decide) (by decide) (by decide) (by decide) at_292 295 rfl ?_
    intro T X e_6
    refine o_iadd C X at_295 296 rfl ?_
    refine o_istore C X at_296 298 rfl #[.val (.int x0), .val (.int x1), .val (.int x2), .val (.int x3), .val (.int (4 : Int32)), .val (.long s0), .second, .val (.long s1), .second, .val (.long s2), .second, .val (.long s3), .second, .val (.long s4), .second, .val (.long s5), .second, .val (.long s6), .second, .val (.int (FCL s0)), .val (.int (FCL s1)), .val (.int (FCL s2)), .val (.int (FCL s3)), .val (.int (FCL s4)), .val (.int (FCL s5)), .val (.int (FCL s6)), .val (.int qq), .val (.ref a), .val (.int (((0 : Int32) + (FB (FCL s0) qq)) + (FB (FCL s1) qq)))] rfl ?_
    refine o_iload C X at_298 300 rfl rfl ?_
    refine o_iconst C X at_300 301 rfl (2 : Int32) (by decide) ?_
    refine o_icmpN C X at_301 304 rfl (tlt (by decide : (2 : Int32) < (4 : Int32))).2.2.2 ?_
    refine o_iload C X at_304 306 rfl rfl ?_
    refine o_iload C X at_306 308 rfl rfl ?_
    refine o_iload C X at_308 310 rfl rfl ?_
    refine o_callP C X hZ (by rw [hml]; rfl) (own := "org/triplewright/engine/IntListLowerBoundPinLaw") (y := (⟨"org/triplewright/engine/IntListLowerBoundPinLaw", "below", "(II)I"⟩ : MethodName)) (rf := 0) (rl := 0) hown (hw _ (List.mem_of_getElem? (i := 32) rfl)) (hw _ (List.mem_of_getElem? (i := 33) rfl)) (hw _ (List.mem_of_getElem? (i := 2) rfl)) (hw _ (List.mem_of_getElem? (i := 34) rfl)) (by decide) (asL := [(.int (FCL s2)), (.int qq)]) (rm7 l Z a0 hw (FCL s2) qq h_6) e_6 pd_1 rfl rfl 1 (Nat.le_of_eq rfl) (by decide) (by decide) (by decide) (by decide) at_310 313 rfl ?_
    intro T X e_6
    refine o_iadd C X at_313 314 rfl ?_
    refine o_istore C X at_314 316 rfl #[.val (.int x0), .val (.int x1), .val (.int x2), .val (.int x3), .val (.int (4 : Int32)), .val (.long s0), .second, .val (.long s1), .second, .val (.long s2), .second, .val (.long s3), .second, .val (.long s4), .second, .val (.long s5), .second, .val (.long s6), .second, .val (.int (FCL s0)), .val (.int (FCL s1)), .val (.int (FCL s2)), .val (.int (FCL s3)), .val (.int (FCL s4)), .val (.int (FCL s5)), .val (.int (FCL s6)), .val (.int qq), .val (.ref a), .val (.int ((((0 : Int32) + (FB (FCL s0) qq)) + (FB (FCL s1) qq)) + (FB (FCL s2) qq)))] rfl ?_
    refine o_iload C X at_316 318 rfl rfl ?_
    refine o_iconst C X at_318 319 rfl (3 : Int32) (by decide) ?_
    refine o_icmpN C X at_319 322 rfl (tlt (by decide : (3 : Int32) < (4 : Int32))).2.2.2 ?_
    refine o_iload C X at_322 324 rfl rfl ?_
    refine o_iload C X at_324 326 rfl rfl ?_
    refine o_iload C X at_326 328 rfl rfl ?_
    refine o_callP C X hZ (by rw [hml]; rfl) (own := "org/triplewright/engine/IntListLowerBoundPinLaw") (y := (⟨"org/triplewright/engine/IntListLowerBoundPinLaw", "below", "(II)I"⟩ : MethodName)) (rf := 0) (rl := 0) hown (hw _ (List.mem_of_getElem? (i := 32) rfl)) (hw _ (List.mem_of_getElem? (i := 33) rfl)) (hw _ (List.mem_of_getElem? (i := 2) rfl)) (hw _ (List.mem_of_getElem? (i := 34) rfl)) (by decide) (asL := [(.int (FCL s3)), (.int qq)]) (rm7 l Z a0 hw (FCL s3) qq h_6) e_6 pd_1 rfl rfl 1 (Nat.le_of_eq rfl) (by decide) (by decide) (by decide) (by decide) at_328 331 rfl ?_
    intro T X e_6
    refine o_iadd C X at_331 332 rfl ?_
    refine o_istore C X at_332 334 rfl #[.val (.int x0), .val (.int x1), .val (.int x2), .val (.int x3), .val (.int (4 : Int32)), .val (.long s0), .second, .val (.long s1), .second, .val (.long s2), .second, .val (.long s3), .second, .val (.long s4), .second, .val (.long s5), .second, .val (.long s6), .second, .val (.int (FCL s0)), .val (.int (FCL s1)), .val (.int (FCL s2)), .val (.int (FCL s3)), .val (.int (FCL s4)), .val (.int (FCL s5)), .val (.int (FCL s6)), .val (.int qq), .val (.ref a), .val (.int (((((0 : Int32) + (FB (FCL s0) qq)) + (FB (FCL s1) qq)) + (FB (FCL s2) qq)) + (FB (FCL s3) qq)))] rfl ?_
    refine o_iload C X at_334 336 rfl rfl ?_
    refine o_iconst C X at_336 337 rfl (4 : Int32) (by decide) ?_
    refine o_icmpY C X at_337 352 (by decide) (by decide) (flt (by decide : ¬ ((4 : Int32) < (4 : Int32)))).2.2.2 ?_
    refine o_iload C X at_352 354 rfl rfl ?_
    refine o_iconst C X at_354 355 rfl (5 : Int32) (by decide) ?_
    refine o_icmpY C X at_355 370 (by decide) (by decide) (flt (by decide : ¬ ((5 : Int32) < (4 : Int32)))).2.2.2 ?_
    refine o_iload C X at_370 372 rfl rfl ?_
    refine o_bipush C X at_372 374 rfl (6 : Int32) (by decide) ?_
    refine o_icmpY C X at_374 389 (by decide) (by decide) (flt (by decide : ¬ ((6 : Int32) < (4 : Int32)))).2.2.2 ?_
    refine o_aload C X at_389 391 rfl rfl rfl ?_
    refine o_iload C X at_391 393 rfl rfl ?_
    refine o_callV C X hZ (by rw [hml]; rfl) (own := "org/triplewright/engine/IntListLowerBoundPinLaw") (y := (⟨"org/triplewright/engine/IntList", "lowerBound", "(I)I"⟩ : MethodName)) hown (hw _ (List.mem_of_getElem? (i := 35) rfl)) (hw _ (List.mem_of_getElem? (i := 36) rfl)) (hw _ (List.mem_of_getElem? (i := 38) rfl)) (hw _ (List.mem_of_getElem? (i := 37) rfl)) (hw _ (List.mem_of_getElem? (i := 15) rfl)) (hw _ (List.mem_of_getElem? (i := 39) rfl)) (by decide) (asL := [(.int qq)]) (a := a) (rm8 l Z a0 hw a r_6 qq (4 : Int32) f_6 4 4 h_6 (by decide) (by decide) rfl (fun i j h1 h2 => by rw [hf_6 i (by omega), hf_6 j h2]; exact hso i j h1 (by omega)) P_6 A_6) e_6 P_6.1 pd_4 rfl rfl 0 (Nat.le_of_eq rfl) (by decide) (by decide) (by decide) (by decide) at_393 396 rfl ?_
    rintro T h_7 _ L_7 X e_7 ⟨t_7, ht_7, rfl, rfl, hh_7, p_7, q_7⟩
    have N0 : Fr n0 _ := Fr.app N0 (Fr.nil n0)
    refine o_iload C X at_396 398 rfl rfl ?_
    refine o_icmpN C X at_398 401 rfl (teq (own_sum (VS s0 s1 s2 s3 s4 s5 s6) qq 4 t_7 ht_7 (fun i hi => by rw [← hf_6 i (by omega)]; exact p_7 i hi) (fun i h1 h2 => by rw [← hf_6 i h2]; exact q_7 i h1 h2) : (Int32.ofNat t_7) = (((((0 : Int32) + (FB (FCL s0) qq)) + (FB (FCL s1) qq)) + (FB (FCL s2) qq)) + (FB (FCL s3) qq)))).2 ?_
    refine o_iconst C X at_401 402 rfl (1 : Int32) (by decide) ?_
    refine o_goto C X at_402 406 (by decide) (by decide) ?_
    exact o_retN C X hret (by simp) hlk at_406 ⟨congrArg some (congrArg _ (rfl)), N0⟩ (by decide) (by decide)
  · rw [hk]
    refine o_new C X hZ hown (hw _ (List.mem_of_getElem? (i := 13) rfl)) (hw _ (List.mem_of_getElem? (i := 14) rfl)) (hw _ (List.mem_of_getElem? (i := 15) rfl)) e0 at_160 (by decide) (by decide) 163 rfl ?_
    intro T h_1 a g_a X e_1 E_1 A_1 D_1
    have ge_a : n0 ≤ a := by rw [g_a]; exact Z0
    have Z_1 : n0 ≤ h_1.size := Nat.le_trans Z0 E_1.1
    have Pa_1 : IL Z h_1 a .null (.int (0 : Int32)) := ⟨A_1, D_1 (Or.inl (hw _ (List.mem_of_getElem? (i := 24) rfl))) (ty := (.array .int)) (by decide), D_1 (Or.inl (hw _ (List.mem_of_getElem? (i := 31) rfl))) (ty := .int) (by decide)⟩
    refine o_dup C X at_163 164 rfl rfl ?_
    refine o_callI C X hZ (by rw [hml]; rfl) (own := "org/triplewright/engine/IntListLowerBoundPinLaw") (y := (⟨"org/triplewright/engine/IntList", "<init>", "()V"⟩ : MethodName)) hown rfl (hw _ (List.mem_of_getElem? (i := 16) rfl)) (hw _ (List.mem_of_getElem? (i := 17) rfl)) (hw _ (List.mem_of_getElem? (i := 15) rfl)) (hw _ (List.mem_of_getElem? (i := 18) rfl)) (by decide) (asL := []) (a := a) (rm4 l Z a0 hw a h_1 n0 Z_1 ge_a Pa_1) e_1 pd_6 rfl rfl 1 (Nat.le_of_eq rfl) (by decide) (by decide) (by decide) (by decide) at_164 167 rfl ?_
    rintro T h_2 _ L_2 X e_2 ⟨r_2, rfl, N_2, K_2, ge_2, ne_2, P_2, A_2⟩
    have N0 := Fr.app N0 N_2
    have Z_2 : n0 ≤ h_2.size := Nat.le_trans Z_1 K_2.1
    refine o_astore C X at_167 169 rfl rfl #[.val (.int x0), .val (.int x1), .val (.int x2), .val (.int x3), .val (.int (5 : Int32)), .val (.long s0), .second, .val (.long s1), .second, .val (.long s2), .second, .val (.long s3), .second, .val (.long s4), .second, .val (.long s5), .second, .val (.long s6), .second, .val (.int (FCL s0)), .val (.int (FCL s1)), .val (.int (FCL s2)), .val (.int (FCL s3)), .val (.int (FCL s4)), .val (.int (FCL s5)), .val (.int (FCL s6)), .val (.int qq), .val (.ref a), .unset] rfl ?_
    refine o_iload C X at_169 171 rfl rfl ?_
    obtain ⟨f00, hf, A00⟩ : ∃ f : Nat → Int32, (∀ j, j < 0 → f j = VS s0 s1 s2 s3 s4 s5 s6 j) ∧ AI Z h_2 r_2 .int 4 f := ⟨_, fun j hj => absurd hj (Nat.not_lt_zero _), A_2⟩
    refine o_ifN C X at_171 174 rfl ((if0 _ _).trans (tlt (by decide : (0 : Int32) < (5 : Int32))).2.2.2) ?_
    refine o_aload C X at_174 176 rfl rfl rfl ?_
    refine o_iload C X at_176 178 rfl rfl ?_
    refine o_callV C X hZ (by rw [hml]; rfl) (own := "org/triplewright/engine/IntListLowerBoundPinLaw") (y := (⟨"org/triplewright/engine/IntList", "add", "(I)V"⟩ : MethodName)) hown (hw _ (List.mem_of_getElem? (i := 25) rfl)) (hw _ (List.mem_of_getElem? (i := 26) rfl)) (hw _ (List.mem_of_getElem? (i := 28) rfl)) (hw _ (List.mem_of_getElem? (i := 27) rfl)) (hw _ (List.mem_of_getElem? (i := 15) rfl)) (hw _ (List.mem_of_getElem? (i := 29) rfl)) (by decide) (asL := [(.int (FCL s0))]) (a := a) (rm6 l Z a0 hw a r_2 (FCL s0) (0 : Int32) f00 0 4 h_2 (by decide) (by decide) n0 Z_2 ge_a ge_2 ne_2 rfl P_2 A00) e_2 P_2.1 pd_3 rfl rfl 0 (Nat.le_of_eq rfl) (by decide) (by decide) (by decide) (by decide) at_178 181 rfl ?_
    rintro T h_3 _ L_3 X e_3 ⟨r_3, f_3, rfl, N_3, K_3, ge_3, ne_3, P_3, A_3, u_3, v_3⟩
    have N0 := Fr.app N0 N_3
    have Z_3 : n0 ≤ h_3.size := Nat.le_trans Z_2 K_3.1
    have hf_3 : ∀ j, j < 1 → f_3 j = VS s0 s1 s2 s3 s4 s5 s6 j := fun j hj => by
      by_cases g : j < 0
      · rw [u_3 j g]; exact hf j g
      · obtain rfl : j = 0 := by omega
        exact v_3
    rw [show ((0 : Int32) + 1 : Int32) = (1 : Int32) from by decide] at P_3
    refine o_iload C X at_181 183 rfl rfl ?_
    refine o_iconst C X at_183 184 rfl (1 : Int32) (by decide) ?_
    refine o_icmpN C X at_184 187 rfl (tlt (by decide : (1 : Int32) < (5 : Int32))).2.2.2 ?_
    refine o_aload C X at_187 189 rfl rfl rfl ?_
    refine o_iload C X at_189 191 rfl rfl ?_
    refine o_callV C X hZ (by rw [hml]; rfl) (own := "org/triplewright/engine/IntListLowerBoundPinLaw") (y := (⟨"org/triplewright/engine/IntList", "add", "(I)V"⟩ : MethodName)) hown (hw _ (List.mem_of_getElem? (i := 25) rfl)) (hw _ (List.mem_of_getElem? (i := 26) rfl)) (hw _ (List.mem_of_getElem? (i := 28) rfl)) (hw _ (List.mem_of_getElem? (i := 27) rfl)) (hw _ (List.mem_of_getElem? (i := 15) rfl)) (hw _ (List.mem_of_getElem? (i := 29) rfl)) (by decide) (asL := [(.int (FCL s1))]) (a := a) (rm6 l Z a0 hw a r_3 (FCL s1) (1 : Int32) f_3 1 4 h_3 (by decide) (by decide) n0 Z_3 ge_a ge_3 ne_3 rfl P_3 A_3) e_3 P_3.1 pd_3 rfl rfl 0 (Nat.le_of_eq rfl) (by decide) (by decide) (by decide) (by decide) at_191 194 rfl ?_
    rintro T h_4 _ L_4 X e_4 ⟨r_4, f_4, rfl, N_4, K_4, ge_4, ne_4, P_4, A_4, u_4, v_4⟩
    have N0 := Fr.app N0 N_4
    have Z_4 : n0 ≤ h_4.size := Nat.le_trans Z_3 K_4.1
    have hf_4 : ∀ j, j < 2 → f_4 j = VS s0 s1 s2 s3 s4 s5 s6 j := fun j hj => by
      by_cases g : j < 1
      · rw [u_4 j g]; exact hf_3 j g
      · obtain rfl : j = 1 := by omega
        exact v_4
    rw [show ((1 : Int32) + 1 : Int32) = (2 : Int32) from by decide] at P_4
    refine o_iload C X at_194 196 rfl rfl ?_
    refine o_iconst C X at_196 197 rfl (2 : Int32) (by decide) ?_
    refine o_icmpN C X at_197 200 rfl (tlt (by decide : (2 : Int32) < (5 : Int32))).2.2.2 ?_
    refine o_aload C X at_200 202 rfl rfl rfl ?_
    refine o_iload C X at_202 204 rfl rfl ?_
    refine o_callV C X hZ (by rw [hml]; rfl) (own := "org/triplewright/engine/IntListLowerBoundPinLaw") (y := (⟨"org/triplewright/engine/IntList", "add", "(I)V"⟩ : MethodName)) hown (hw _ (List.mem_of_getElem? (i := 25) rfl)) (hw _ (List.mem_of_getElem? (i := 26) rfl)) (hw _ (List.mem_of_getElem? (i := 28) rfl)) (hw _ (List.mem_of_getElem? (i := 27) rfl)) (hw _ (List.mem_of_getElem? (i := 15) rfl)) (hw _ (List.mem_of_getElem? (i := 29) rfl)) (by decide) (asL := [(.int (FCL s2))]) (a := a) (rm6 l Z a0 hw a r_4 (FCL s2) (2 : Int32) f_4 2 4 h_4 (by decide) (by decide) n0 Z_4 ge_a ge_4 ne_4 rfl P_4 A_4) e_4 P_4.1 pd_3 rfl rfl 0 (Nat.le_of_eq rfl) (by decide) (by decide) (by decide) (by decide) at_204 207 rfl ?_
    rintro T h_5 _ L_5 X e_5 ⟨r_5, f_5, rfl, N_5, K_5, ge_5, ne_5, P_5, A_5, u_5, v_5⟩
    have N0 := Fr.app N0 N_5
    have Z_5 : n0 ≤ h_5.size := Nat.le_trans Z_4 K_5.1
    have hf_5 : ∀ j, j < 3 → f_5 j = VS s0 s1 s2 s3 s4 s5 s6 j := fun j hj => by
      by_cases g : j < 2
      · rw [u_5 j g]; exact hf_4 j g
      · obtain rfl : j = 2 := by omega
        exact v_5
    rw [show ((2 : Int32) + 1 : Int32) = (3 : Int32) from by decide] at P_5
    refine o_iload C X at_207 209 rfl rfl ?_
    refine o_iconst C X at_209 210 rfl (3 : Int32) (by decide) ?_
    refine o_icmpN C X at_210 213 rfl (tlt (by decide : (3 : Int32) < (5 : Int32))).2.2.2 ?_
    refine o_aload C X at_213 215 rfl rfl rfl ?_
    refine o_iload C X at_215 217 rfl rfl ?_
    refine o_callV C X hZ (by rw [hml]; rfl) (own := "org/triplewright/engine/IntListLowerBoundPinLaw") (y := (⟨"org/triplewright/engine/IntList", "add", "(I)V"⟩ : MethodName)) hown (hw _ (List.mem_of_getElem? (i := 25) rfl)) (hw _ (List.mem_of_getElem? (i := 26) rfl)) (hw _ (List.mem_of_getElem? (i := 28) rfl)) (hw _ (List.mem_of_getElem? (i := 27) rfl)) (hw _ (List.mem_of_getElem? (i := 15) rfl)) (hw _ (List.mem_of_getElem? (i := 29) rfl)) (by decide) (asL := [(.int (FCL s3))]) (a := a) (rm6 l Z a0 hw a r_5 (FCL s3) (3 : Int32) f_5 3 4 h_5 (by decide) (by decide) n0 Z_5 ge_a ge_5 ne_5 rfl P_5 A_5) e_5 P_5.1 pd_3 rfl rfl 0 (Nat.le_of_eq rfl) (by decide) (by decide) (by decide) (by decide) at_217 220 rfl ?_
    rintro T h_6 _ L_6 X e_6 ⟨r_6, f_6, rfl, N_6, K_6, ge_6, ne_6, P_6, A_6, u_6, v_6⟩
    have N0 := Fr.app N0 N_6
    have Z_6 : n0 ≤ h_6.size := Nat.le_trans Z_5 K_6.1
    have hf_6 : ∀ j, j < 4 → f_6 j = VS s0 s1 s2 s3 s4 s5 s6 j := fun j hj => by
      by_cases g : j < 3
      · rw [u_6 j g]; exact hf_5 j g
      · obtain rfl : j = 3 := by omega
        exact v_6
    rw [show ((3 : Int32) + 1 : Int32) = (4 : Int32) from by decide] at P_6
    refine o_iload C X at_220 222 rfl rfl ?_
    refine o_iconst C X at_222 223 rfl (4 : Int32) (by decide) ?_
    refine o_icmpN C X at_223 226 rfl (tlt (by decide : (4 : Int32) < (5 : Int32))).2.2.2 ?_
    refine o_aload C X at_226 228 rfl rfl rfl ?_
    refine o_iload C X at_228 230 rfl rfl ?_
    refine o_callV C X hZ (by rw [hml]; rfl) (own := "org/triplewright/engine/IntListLowerBoundPinLaw") (y := (⟨"org/triplewright/engine/IntList", "add", "(I)V"⟩ : MethodName)) hown (hw _ (List.mem_of_getElem? (i := 25) rfl)) (hw _ (List.mem_of_getElem? (i := 26) rfl)) (hw _ (List.mem_of_getElem? (i := 28) rfl)) (hw _ (List.mem_of_getElem? (i := 27) rfl)) (hw _ (List.mem_of_getElem? (i := 15) rfl)) (hw _ (List.mem_of_getElem? (i := 29) rfl)) (by decide) (asL := [(.int (FCL s4))]) (a := a) (rg6 l Z a0 hw a r_6 (FCL s4) (4 : Int32) f_6 4 h_6 rfl n0 Z_6 ge_a ge_6 ne_6 rfl P_6 A_6) e_6 P_6.1 pd_3 rfl rfl 0 (Nat.le_of_eq rfl) (by decide) (by decide) (by decide) (by decide) at_230 233 rfl ?_
    rintro T h_7 _ L_7 X e_7 ⟨r_7, f_7, rfl, N_7, K_7, ge_7, ne_7, P_7, A_7, u_7, v_7⟩
    have N0 := Fr.app N0 N_7
    have Z_7 : n0 ≤ h_7.size := Nat.le_trans Z_6 K_7.1
    have hf_7 : ∀ j, j < 5 → f_7 j = VS s0 s1 s2 s3 s4 s5 s6 j := fun j hj => by
      by_cases g : j < 4
      · rw [u_7 j g]; exact hf_6 j g
      · obtain rfl : j = 4 := by omega
        exact v_7
    rw [show ((4 : Int32) + 1 : Int32) = (5 : Int32) from by decide] at P_7
    refine o_iload C X at_233 235 rfl rfl ?_
    refine o_iconst C X at_235 236 rfl (5 : Int32) (by decide) ?_
    refine o_icmpY C X at_236 246 (by decide) (by decide) (flt (by decide : ¬ ((5 : Int32) < (5 : Int32)))).2.2.2 ?_
    refine o_iload C X at_246 248 rfl rfl ?_
    refine o_bipush C X at_248 250 rfl (6 : Int32) (by decide) ?_
    refine o_icmpY C X at_250 260 (by decide) (by decide) (flt (by decide : ¬ ((6 : Int32) < (5 : Int32)))).2.2.2 ?_
    refine o_iconst C X at_260 261 rfl (0 : Int32) (by decide) ?_
    refine o_istore C X at_261 263 rfl #[.val (.int x0), .val (.int x1), .val (.int x2), .val (.int x3), .val (.int (5 : Int32)), .val (.long s0), .second, .val (.long s1), .second, .val (.long s2), .second, .val (.long s3), .second, .val (.long s4), .second, .val (.long s5), .second, .val (.long s6), .second, .val (.int (FCL s0)), .val (.int (FCL s1)), .val (.int (FCL s2)), .val (.int (FCL s3)), .val (.int (FCL s4)), .val (.int (FCL s5)), .val (.int (FCL s6)), .val (.int qq), .val (.ref a), .val (.int (0 : Int32))] rfl ?_
    refine o_iload C X at_263 265 rfl rfl ?_
    refine o_ifN C X at_265 268 rfl ((if0 _ _).trans (tlt (by decide : (0 : Int32) < (5 : Int32))).2.2.2) ?_
    refine o_iload C X at_268 270 rfl rfl ?_
    refine o_iload C X at_270 272 rfl rfl ?_
    refine o_iload C X at_272 274 rfl rfl ?_
    refine o_callP C X hZ (by rw [hml]; rfl) (own := "org/triplewright/engine/IntListLowerBoundPinLaw") (y := (⟨"org/triplewright/engine/IntListLowerBoundPinLaw", "below", "(II)I"⟩ : MethodName)) (rf := 0) (rl := 0) hown (hw _ (List.mem_of_getElem? (i := 32) rfl)) (hw _ (List.mem_of_getElem? (i := 33) rfl)) (hw _ (List.mem_of_getElem? (i := 2) rfl)) (hw _ (List.mem_of_getElem? (i := 34) rfl)) (by decide) (asL := [(.int (FCL s0)), (.int qq)]) (rm7 l Z a0 hw (FCL s0) qq h_7) e_7 pd_1 rfl rfl 1 (Nat.le_of_eq rfl) (by decide) (by decide) (by decide) (by decide) at_274 277 rfl ?_
    intro T X e_7
    refine o_iadd C X at_277 278 rfl ?_
    refine o_istore C X at_278 280 rfl #[.val (.int x0), .val (.int x1), .val (.int x2), .val (.int x3), .val (.int (5 : Int32)), .val (.long s0), .second, .val (.long s1), .second, .val (.long s2), .second, .val (.long s3), .second, .val (.long s4), .second, .val (.long s5), .second, .val (.long s6), .second, .val (.int (FCL s0)), .val (.int (FCL s1)), .val (.int (FCL s2)), .val (.int (FCL s3)), .val (.int (FCL s4)), .val (.int (FCL s5)), .val (.int (FCL s6)), .val (.int qq), .val (.ref a), .val (.int ((0 : Int32) + (FB (FCL s0) qq)))] rfl ?_
    refine o_iload C X at_280 282 rfl rfl ?_
    refine o_iconst C X at_282 283 rfl (1 : Int32) (by decide) ?_
    refine o_icmpN C X at_283 286 rfl (tlt (by decide : (1 : Int32) < (5 : Int32))).2.2.2 ?_
    refine o_iload C X at_286 288 rfl rfl ?_
    refine o_iload C X at_288 290 rfl rfl ?_
    refine o_iload C X at_290 292 rfl rfl ?_
    refine o_callP C X hZ (by rw [hml]; rfl) (own := "org/triplewright/engine/IntListLowerBoundPinLaw") (y := (⟨"org/triplewright/engine/IntListLowerBoundPinLaw", "below", "(II)I"⟩ : MethodName)) (rf := 0) (rl := 0) hown (hw _ (List.mem_of_getElem? (i := 32) rfl)) (hw _ (List.mem_of_getElem? (i := 33) rfl)) (hw _ (List.mem_of_getElem? (i := 2) rfl)) (hw _ (List.mem_of_getElem? (i := 34) rfl)) (by decide) (asL := [(.int (FCL s1)), (.int qq)]) (rm7 l Z a0 hw (FCL s1) qq h_7) e_7 pd_1 rfl rfl 1 (Nat.le_of_eq rfl) (by decide) (by decide) (by decide) (by decide) at_292 295 rfl ?_
    intro T X e_7
    refine o_iadd C X at_295 296 rfl ?_
    refine o_istore C X at_296 298 rfl #[.val (.int x0), .val (.int x1), .val (.int x2), .val (.int x3), .val (.int (5 : Int32)), .val (.long s0), .second, .val (.long s1), .second, .val (.long s2), .second, .val (.long s3), .second, .val (.long s4), .second, .val (.long s5), .second, .val (.long s6), .second, .val (.int (FCL s0)), .val (.int (FCL s1)), .val (.int (FCL s2)), .val (.int (FCL s3)), .val (.int (FCL s4)), .val (.int (FCL s5)), .val (.int (FCL s6)), .val (.int qq), .val (.ref a), .val (.int (((0 : Int32) + (FB (FCL s0) qq)) + (FB (FCL s1) qq)))] rfl ?_
    refine o_iload C X at_298 300 rfl rfl ?_
    refine o_iconst C X at_300 301 rfl (2 : Int32) (by decide) ?_
    refine o_icmpN C X at_301 304 rfl (tlt (by decide : (2 : Int32) < (5 : Int32))).2.2.2 ?_
    refine o_iload C X at_304 306 rfl rfl ?_
    refine o_iload C X at_306 308 rfl rfl ?_
    refine o_iload C X at_308 310 rfl rfl ?_
    refine o_callP C X hZ (by rw [hml]; rfl) (own := "org/triplewright/engine/IntListLowerBoundPinLaw") (y := (⟨"org/triplewright/engine/IntListLowerBoundPinLaw", "below", "(II)I"⟩ : MethodName)) (rf := 0) (rl := 0) hown (hw _ (List.mem_of_getElem? (i := 32) rfl)) (hw _ (List.mem_of_getElem? (i := 33) rfl)) (hw _ (List.mem_of_getElem? (i := 2) rfl)) (hw _ (List.mem_of_getElem? (i := 34) rfl)) (by decide) (asL := [(.int (FCL s2)), (.int qq)]) (rm7 l Z a0 hw (FCL s2) qq h_7) e_7 pd_1 rfl rfl 1 (Nat.le_of_eq rfl) (by decide) (by decide) (by decide) (by decide) at_310 313 rfl ?_
    intro T X e_7
    refine o_iadd C X at_313 314 rfl ?_
    refine o_istore C X at_314 316 rfl #[.val (.int x0), .val (.int x1), .val (.int x2), .val (.int x3), .val (.int (5 : Int32)), .val (.long s0), .second, .val (.long s1), .second, .val (.long s2), .second, .val (.long s3), .second, .val (.long s4), .second, .val (.long s5), .second, .val (.long s6), .second, .val (.int (FCL s0)), .val (.int (FCL s1)), .val (.int (FCL s2)), .val (.int (FCL s3)), .val (.int (FCL s4)), .val (.int (FCL s5)), .val (.int (FCL s6)), .val (.int qq), .val (.ref a), .val (.int ((((0 : Int32) + (FB (FCL s0) qq)) + (FB (FCL s1) qq)) + (FB (FCL s2) qq)))] rfl ?_
    refine o_iload C X at_316 318 rfl rfl ?_
    refine o_iconst C X at_318 319 rfl (3 : Int32) (by decide) ?_
    refine o_icmpN C X at_319 322 rfl (tlt (by decide : (3 : Int32) < (5 : Int32))).2.2.2 ?_
    refine o_iload C X at_322 324 rfl rfl ?_
    refine o_iload C X at_324 326 rfl rfl ?_
    refine o_iload C X at_326 328 rfl rfl ?_
    refine o_callP C X hZ (by rw [hml]; rfl) (own := "org/triplewright/engine/IntListLowerBoundPinLaw") (y := (⟨"org/triplewright/engine/IntListLowerBoundPinLaw", "below", "(II)I"⟩ : MethodName)) (rf := 0) (rl := 0) hown (hw _ (List.mem_of_getElem? (i := 32) rfl)) (hw _ (List.mem_of_getElem? (i := 33) rfl)) (hw _ (List.mem_of_getElem? (i := 2) rfl)) (hw _ (List.mem_of_getElem? (i := 34) rfl)) (by decide) (asL := [(.int (FCL s3)), (.int qq)]) (rm7 l Z a0 hw (FCL s3) qq h_7) e_7 pd_1 rfl rfl 1 (Nat.le_of_eq rfl) (by decide) (by decide) (by decide) (by decide) at_328 331 rfl ?_
    intro T X e_7
    refine o_iadd C X at_331 332 rfl ?_
    refine o_istore C X at_332 334 rfl #[.val (.int x0), .val (.int x1), .val (.int x2), .val (.int x3), .val (.int (5 : Int32)), .val (.long s0), .second, .val (.long s1), .second, .val (.long s2), .second, .val (.long s3), .second, .val (.long s4), .second, .val (.long s5), .second, .val (.long s6), .second, .val (.int (FCL s0)), .val (.int (FCL s1)), .val (.int (FCL s2)), .val (.int (FCL s3)), .val (.int (FCL s4)), .val (.int (FCL s5)), .val (.int (FCL s6)), .val (.int qq), .val (.ref a), .val (.int (((((0 : Int32) + (FB (FCL s0) qq)) + (FB (FCL s1) qq)) + (FB (FCL s2) qq)) + (FB (FCL s3) qq)))] rfl ?_
    refine o_iload C X at_334 336 rfl rfl ?_
    refine o_iconst C X at_336 337 rfl (4 : Int32) (by decide) ?_
    refine o_icmpN C X at_337 340 rfl (tlt (by decide : (4 : Int32) < (5 : Int32))).2.2.2 ?_
    refine o_iload C X at_340 342 rfl rfl ?_
    refine o_iload C X at_342 344 rfl rfl ?_
    refine o_iload C X at_344 346 rfl rfl ?_
    refine o_callP C X hZ (by rw [hml]; rfl) (own := "org/triplewright/engine/IntListLowerBoundPinLaw") (y := (⟨"org/triplewright/engine/IntListLowerBoundPinLaw", "below", "(II)I"⟩ : MethodName)) (rf := 0) (rl := 0) hown (hw _ (List.mem_of_getElem? (i := 32) rfl)) (hw _ (List.mem_of_getElem? (i := 33) rfl)) (hw _ (List.mem_of_getElem? (i := 2) rfl)) (hw _ (List.mem_of_getElem? (i := 34) rfl)) (by decide) (asL := [(.int (FCL s4)), (.int qq)]) (rm7 l Z a0 hw (FCL s4) qq h_7) e_7 pd_1 rfl rfl 1 (Nat.le_of_eq rfl) (by decide) (by decide) (by decide) (by decide) at_346 349 rfl ?_
    intro T X e_7
    refine o_iadd C X at_349 350 rfl ?_
    refine o_istore C X at_350 352 rfl #[.val (.int x0), .val (.int x1), .val (.int x2), .val (.int x3), .val (.int (5 : Int32)), .val (.long s0), .second, .val (.long s1), .second, .val (.long s2), .second, .val (.long s3), .second, .val (.long s4), .second, .val (.long s5), .second, .val (.long s6), .second, .val (.int (FCL s0)), .val (.int (FCL s1)), .val (.int (FCL s2)), .val (.int (FCL s3)), .val (.int (FCL s4)), .val (.int (FCL s5)), .val (.int (FCL s6)), .val (.int qq), .val (.ref a), .val (.int ((((((0 : Int32) + (FB (FCL s0) qq)) + (FB (FCL s1) qq)) + (FB (FCL s2) qq)) + (FB (FCL s3) qq)) + (FB (FCL s4) qq)))] rfl ?_
    refine o_iload C X at_352 354 rfl rfl ?_
    refine o_iconst C X at_354 355 rfl (5 : Int32) (by decide) ?_
    refine o_icmpY C X at_355 370 (by decide) (by decide) (flt (by decide : ¬ ((5 : Int32) < (5 : Int32)))).2.2.2 ?_
    refine o_iload C X at_370 372 rfl rfl ?_
    refine o_bipush C X at_372 374 rfl (6 : Int32) (by decide) ?_
    refine o_icmpY C X at_374 389 (by decide) (by decide) (flt (by decide : ¬ ((6 : Int32) < (5 : Int32)))).2.2.2 ?_
    refine o_aload C X at_389 391 rfl rfl rfl ?_
    refine o_iload C X at_391 393 rfl rfl ?_
    refine o_callV C X hZ (by rw [hml]; rfl) (own := "org/triplewright/engine/IntListLowerBoundPinLaw") (y := (⟨"org/triplewright/engine/IntList", "lowerBound", "(I)I"⟩ : MethodName)) hown (hw _ (List.mem_of_getElem? (i := 35) rfl)) (hw _ (List.mem_of_getElem? (i := 36) rfl)) (hw _ (List.mem_of_getElem? (i := 38) rfl)) (hw _ (List.mem_of_getElem? (i := 37) rfl)) (hw _ (List.mem_of_getElem? (i := 15) rfl)) (hw _ (List.mem_of_getElem? (i := 39) rfl)) (by decide) (asL := [(.int qq)]) (a := a) (rm8 l Z a0 hw a r_7 qq (5 : Int32) f_7 5 8 h_7 (by decide) (by decide) rfl (fun i j h1 h2 => by rw [hf_7 i (by omega), hf_7 j h2]; exact hso i j h1 (by omega)) P_7 A_7) e_7 P_7.1 pd_4 rfl rfl 0 (Nat.le_of_eq rfl) (by decide) (by decide) (by decide) (by decide) at_393 396 rfl ?_
    rintro T h_8 _ L_8 X e_8 ⟨t_8, ht_8, rfl, rfl, hh_8, p_8, q_8⟩
    have N0 : Fr n0 _ := Fr.app N0 (Fr.nil n0)
    refine o_iload C X at_396 398 rfl rfl ?_
    refine o_icmpN C X at_398 401 rfl (teq (own_sum (VS s0 s1 s2 s3 s4 s5 s6) qq 5 t_8 ht_8 (fun i hi => by rw [← hf_7 i (by omega)]; exact p_8 i hi) (fun i h1 h2 => by rw [← hf_7 i h2]; exact q_8 i h1 h2) : (Int32.ofNat t_8) = ((((((0 : Int32) + (FB (FCL s0) qq)) + (FB (FCL s1) qq)) + (FB (FCL s2) qq)) + (FB (FCL s3) qq)) + (FB (FCL s4) qq)))).2 ?_
    refine o_iconst C X at_401 402 rfl (1 : Int32) (by decide) ?_
    refine o_goto C X at_402 406 (by decide) (by decide) ?_
    exact o_retN C X hret (by simp) hlk at_406 ⟨congrArg some (congrArg _ (rfl)), N0⟩ (by decide) (by decide)
  · rw [hk]
    refine o_new C X hZ hown (hw _ (List.mem_of_getElem? (i := 13) rfl)) (hw _ (List.mem_of_getElem? (i := 14) rfl)) (hw _ (List.mem_of_getElem? (i := 15) rfl)) e0 at_160 (by decide) (by decide) 163 rfl ?_
    intro T h_1 a g_a X e_1 E_1 A_1 D_1
    have ge_a : n0 ≤ a := by rw [g_a]; exact Z0
    have Z_1 : n0 ≤ h_1.size := Nat.le_trans Z0 E_1.1
    have Pa_1 : IL Z h_1 a .null (.int (0 : Int32)) := ⟨A_1, D_1 (Or.inl (hw _ (List.mem_of_getElem? (i := 24) rfl))) (ty := (.array .int)) (by decide), D_1 (Or.inl (hw _ (List.mem_of_getElem? (i := 31) rfl))) (ty := .int) (by decide)⟩
    refine o_dup C X at_163 164 rfl rfl ?_
    refine o_callI C X hZ (by rw [hml]; rfl) (own := "org/triplewright/engine/IntListLowerBoundPinLaw") (y := (⟨"org/triplewright/engine/IntList", "<init>", "()V"⟩ : MethodName)) hown rfl (hw _ (List.mem_of_getElem? (i := 16) rfl)) (hw _ (List.mem_of_getElem? (i := 17) rfl)) (hw _ (List.mem_of_getElem? (i := 15) rfl)) (hw _ (List.mem_of_getElem? (i := 18) rfl)) (by decide) (asL := []) (a := a) (rm4 l Z a0 hw a h_1 n0 Z_1 ge_a Pa_1) e_1 pd_6 rfl rfl 1 (Nat.le_of_eq rfl) (by decide) (by decide) (by decide) (by decide) at_164 167 rfl ?_
    rintro T h_2 _ L_2 X e_2 ⟨r_2, rfl, N_2, K_2, ge_2, ne_2, P_2, A_2⟩
    have N0 := Fr.app N0 N_2
    have Z_2 : n0 ≤ h_2.size := Nat.le_trans Z_1 K_2.1
    refine o_astore C X at_167 169 rfl rfl #[.val (.int x0), .val (.int x1), .val (.int x2), .val (.int x3), .val (.int (6 : Int32)), .val (.long s0), .second, .val (.long s1), .second, .val (.long s2), .second, .val (.long s3), .second, .val (.long s4), .second, .val (.long s5), .second, .val (.long s6), .second, .val (.int (FCL s0)), .val (.int (FCL s1)), .val (.int (FCL s2)), .val (.int (FCL s3)), .val (.int (FCL s4)), .val (.int (FCL s5)), .val (.int (FCL s6)), .val (.int qq), .val (.ref a), .unset] rfl ?_
    refine o_iload C X at_169 171 rfl rfl ?_
    obtain ⟨f00, hf, A00⟩ : ∃ f : Nat → Int32, (∀ j, j < 0 → f j = VS s0 s1 s2 s3 s4 s5 s6 j) ∧ AI Z h_2 r_2 .int 4 f := ⟨_, fun j hj => absurd hj (Nat.not_lt_zero _), A_2⟩
    refine o_ifN C X at_171 174 rfl ((if0 _ _).trans (tlt (by decide : (0 : Int32) < (6 : Int32))).2.2.2) ?_
    refine o_aload C X at_174 176 rfl rfl rfl ?_
    refine o_iload C X at_176 178 rfl rfl ?_
    refine o_callV C X hZ (by rw [hml]; rfl) (own := "org/triplewright/engine/IntListLowerBoundPinLaw") (y := (⟨"org/triplewright/engine/IntList", "add", "(I)V"⟩ : MethodName)) hown (hw _ (List.mem_of_getElem? (i := 25) rfl)) (hw _ (List.mem_of_getElem? (i := 26) rfl)) (hw _ (List.mem_of_getElem? (i := 28) rfl)) (hw _ (List.mem_of_getElem? (i := 27) rfl)) (hw _ (List.mem_of_getElem? (i := 15) rfl)) (hw _ (List.mem_of_getElem? (i := 29) rfl)) (by decide) (asL := [(.int (FCL s0))]) (a := a) (rm6 l Z a0 hw a r_2 (FCL s0) (0 : Int32) f00 0 4 h_2 (by decide) (by decide) n0 Z_2 ge_a ge_2 ne_2 rfl P_2 A00) e_2 P_2.1 pd_3 rfl rfl 0 (Nat.le_of_eq rfl) (by decide) (by decide) (by decide) (by decide) at_178 181 rfl ?_
    rintro T h_3 _ L_3 X e_3 ⟨r_3, f_3, rfl, N_3, K_3, ge_3, ne_3, P_3, A_3, u_3, v_3⟩
    have N0 := Fr.app N0 N_3
    have Z_3 : n0 ≤ h_3.size := Nat.le_trans Z_2 K_3.1
    have hf_3 : ∀ j, j < 1 → f_3 j = VS s0 s1 s2 s3 s4 s5 s6 j := fun j hj => by
      by_cases g : j < 0
      · rw [u_3 j g]; exact hf j g
      · obtain rfl : j = 0 := by omega
        exact v_3
    rw [show ((0 : Int32) + 1 : Int32) = (1 : Int32) from by decide] at P_3
    refine o_iload C X at_181 183 rfl rfl ?_
    refine o_iconst C X at_183 184 rfl (1 : Int32) (by decide) ?_
    refine o_icmpN C X at_184 187 rfl (tlt (by decide : (1 : Int32) < (6 : Int32))).2.2.2 ?_
    refine o_aload C X at_187 189 rfl rfl rfl ?_
    refine o_iload C X at_189 191 rfl rfl ?_
    refine o_callV C X hZ (by rw [hml]; rfl) (own := "org/triplewright/engine/IntListLowerBoundPinLaw") (y := (⟨"org/triplewright/engine/IntList", "add", "(I)V"⟩ : MethodName)) hown (hw _ (List.mem_of_getElem? (i := 25) rfl)) (hw _ (List.mem_of_getElem? (i := 26) rfl)) (hw _ (List.mem_of_getElem? (i := 28) rfl)) (hw _ (List.mem_of_getElem? (i := 27) rfl)) (hw _ (List.mem_of_getElem? (i := 15) rfl)) (hw _ (List.mem_of_getElem? (i := 29) rfl)) (by decide) (asL := [(.int (FCL s1))]) (a := a) (rm6 l Z a0 hw a r_3 (FCL s1) (1 : Int32) f_3 1 4 h_3 (by decide) (by decide) n0 Z_3 ge_a ge_3 ne_3 rfl P_3 A_3) e_3 P_3.1 pd_3 rfl rfl 0 (Nat.le_of_eq rfl) (by decide) (by decide) (by decide) (by decide) at_191 194 rfl ?_
    rintro T h_4 _ L_4 X e_4 ⟨r_4, f_4, rfl, N_4, K_4, ge_4, ne_4, P_4, A_4, u_4, v_4⟩
    have N0 := Fr.app N0 N_4
    have Z_4 : n0 ≤ h_4.size := Nat.le_trans Z_3 K_4.1
    have hf_4 : ∀ j, j < 2 → f_4 j = VS s0 s1 s2 s3 s4 s5 s6 j := fun j hj => by
      by_cases g : j < 1
      · rw [u_4 j g]; exact hf_3 j g
      · obtain rfl : j = 1 := by omega
        exact v_4
    rw [show ((1 : Int32) + 1 : Int32) = (2 : Int32) from by decide] at P_4
    refine o_iload C X at_194 196 rfl rfl ?_
    refine o_iconst C X at_196 197 rfl (2 : Int32) (by decide) ?_
    refine o_icmpN C X at_197 200 rfl (tlt (by decide : (2 : Int32) < (6 : Int32))).2.2.2 ?_
    refine o_aload C X at_200 202 rfl rfl rfl ?_
    refine o_iload C X at_202 204 rfl rfl ?_
    refine o_callV C X hZ (by rw [hml]; rfl) (own := "org/triplewright/engine/IntListLowerBoundPinLaw") (y := (⟨"org/triplewright/engine/IntList", "add", "(I)V"⟩ : MethodName)) hown (hw _ (List.mem_of_getElem? (i := 25) rfl)) (hw _ (List.mem_of_getElem? (i := 26) rfl)) (hw _ (List.mem_of_getElem? (i := 28) rfl)) (hw _ (List.mem_of_getElem? (i := 27) rfl)) (hw _ (List.mem_of_getElem? (i := 15) rfl)) (hw _ (List.mem_of_getElem? (i := 29) rfl)) (by decide) (asL := [(.int (FCL s2))]) (a := a) (rm6 l Z a0 hw a r_4 (FCL s2) (2 : Int32) f_4 2 4 h_4 (by decide) (by decide) n0 Z_4 ge_a ge_4 ne_4 rfl P_4 A_4) e_4 P_4.1 pd_3 rfl rfl 0 (Nat.le_of_eq rfl) (by decide) (by decide) (by decide) (by decide) at_204 207 rfl ?_
    rintro T h_5 _ L_5 X e_5 ⟨r_5, f_5, rfl, N_5, K_5, ge_5, ne_5, P_5, A_5, u_5, v_5⟩
    have N0 := Fr.app N0 N_5
    have Z_5 : n0 ≤ h_5.size := Nat.le_trans Z_4 K_5.1
    have hf_5 : ∀ j, j < 3 → f_5 j = VS s0 s1 s2 s3 s4 s5 s6 j := fun j hj => by
      by_cases g : j < 2
      · rw [u_5 j g]; exact hf_4 j g
      · obtain rfl : j = 2 := by omega
        exact v_5
    rw [show ((2 : Int32) + 1 : Int32) = (3 : Int32) from by decide] at P_5
    refine o_iload C X at_207 209 rfl rfl ?_
    refine o_iconst C X at_209 210 rfl (3 : Int32) (by decide) ?_
    refine o_icmpN C X at_210 213 rfl (tlt (by decide : (3 : Int32) < (6 : Int32))).2.2.2 ?_
    refine o_aload C X at_213 215 rfl rfl rfl ?_
    refine o_iload C X at_215 217 rfl rfl ?_
    refine o_callV C X hZ (by rw [hml]; rfl) (own := "org/triplewright/engine/IntListLowerBoundPinLaw") (y := (⟨"org/triplewright/engine/IntList", "add", "(I)V"⟩ : MethodName)) hown (hw _ (List.mem_of_getElem? (i := 25) rfl)) (hw _ (List.mem_of_getElem? (i := 26) rfl)) (hw _ (List.mem_of_getElem? (i := 28) rfl)) (hw _ (List.mem_of_getElem? (i := 27) rfl)) (hw _ (List.mem_of_getElem? (i := 15) rfl)) (hw _ (List.mem_of_getElem? (i := 29) rfl)) (by decide) (asL := [(.int (FCL s3))]) (a := a) (rm6 l Z a0 hw a r_5 (FCL s3) (3 : Int32) f_5 3 4 h_5 (by decide) (by decide) n0 Z_5 ge_a ge_5 ne_5 rfl P_5 A_5) e_5 P_5.1 pd_3 rfl rfl 0 (Nat.le_of_eq rfl) (by decide) (by decide) (by decide) (by decide) at_217 220 rfl ?_
    rintro T h_6 _ L_6 X e_6 ⟨r_6, f_6, rfl, N_6, K_6, ge_6, ne_6, P_6, A_6, u_6, v_6⟩
    have N0 := Fr.app N0 N_6
    have Z_6 : n0 ≤ h_6.size := Nat.le_trans Z_5 K_6.1
    have hf_6 : ∀ j, j < 4 → f_6 j = VS s0 s1 s2 s3 s4 s5 s6 j := fun j hj => by
      by_cases g : j < 3
      · rw [u_6 j g]; exact hf_5 j g
      · obtain rfl : j = 3 := by omega
        exact v_6
    rw [show ((3 : Int32) + 1 : Int32) = (4 : Int32) from by decide] at P_6
    refine o_iload C X at_220 222 rfl rfl ?_
    refine o_iconst C X at_222 223 rfl (4 : Int32) (by decide) ?_
    refine o_icmpN C X at_223 226 rfl (tlt (by decide : (4 : Int32) < (6 : Int32))).2.2.2 ?_
    refine o_aload C X at_226 228 rfl rfl rfl ?_
    refine o_iload C X at_228 230 rfl rfl ?_
    refine o_callV C X hZ (by rw [hml]; rfl) (own := "org/triplewright/engine/IntListLowerBoundPinLaw") (y := (⟨"org/triplewright/engine/IntList", "add", "(I)V"⟩ : MethodName)) hown (hw _ (List.mem_of_getElem? (i := 25) rfl)) (hw _ (List.mem_of_getElem? (i := 26) rfl)) (hw _ (List.mem_of_getElem? (i := 28) rfl)) (hw _ (List.mem_of_getElem? (i := 27) rfl)) (hw _ (List.mem_of_getElem? (i := 15) rfl)) (hw _ (List.mem_of_getElem? (i := 29) rfl)) (by decide) (asL := [(.int (FCL s4))]) (a := a) (rg6 l Z a0 hw a r_6 (FCL s4) (4 : Int32) f_6 4 h_6 rfl n0 Z_6 ge_a ge_6 ne_6 rfl P_6 A_6) e_6 P_6.1 pd_3 rfl rfl 0 (Nat.le_of_eq rfl) (by decide) (by decide) (by decide) (by decide) at_230 233 rfl ?_
    rintro T h_7 _ L_7 X e_7 ⟨r_7, f_7, rfl, N_7, K_7, ge_7, ne_7, P_7, A_7, u_7, v_7⟩
    have N0 := Fr.app N0 N_7
    have Z_7 : n0 ≤ h_7.size := Nat.le_trans Z_6 K_7.1
    have hf_7 : ∀ j, j < 5 → f_7 j = VS s0 s1 s2 s3 s4 s5 s6 j := fun j hj => by
      by_cases g : j < 4
      · rw [u_7 j g]; exact hf_6 j g
      · obtain rfl : j = 4 := by omega
        exact v_7
    rw [show ((4 : Int32) + 1 : Int32) = (5 : Int32) from by decide] at P_7
    refine o_iload C X at_233 235 rfl rfl ?_
    refine o_iconst C X at_235 236 rfl (5 : Int32) (by decide) ?_
    refine o_icmpN C X at_236 239 rfl (tlt (by decide : (5 : Int32) < (6 : Int32))).2.2.2 ?_
    refine o_aload C X at_239 241 rfl rfl rfl ?_
    refine o_iload C X at_241 243 rfl rfl ?_
    refine o_callV C X hZ (by rw [hml]; rfl) (own := "org/triplewright/engine/IntListLowerBoundPinLaw") (y := (⟨"org/triplewright/engine/IntList", "add", "(I)V"⟩ : MethodName)) hown (hw _ (List.mem_of_getElem? (i := 25) rfl)) (hw _ (List.mem_of_getElem? (i := 26) rfl)) (hw _ (List.mem_of_getElem? (i := 28) rfl)) (hw _ (List.mem_of_getElem? (i := 27) rfl)) (hw _ (List.mem_of_getElem? (i := 15) rfl)) (hw _ (List.mem_of_getElem? (i := 29) rfl)) (by decide) (asL := [(.int (FCL s5))]) (a := a) (rm6 l Z a0 hw a r_7 (FCL s5) (5 : Int32) f_7 5 8 h_7 (by decide) (by decide) n0 Z_7 ge_a ge_7 ne_7 rfl P_7 A_7) e_7 P_7.1 pd_3 rfl rfl 0 (Nat.le_of_eq rfl) (by decide) (by decide) (by decide) (by decide) at_243 246 rfl ?_
    rintro T h_8 _ L_8 X e_8 ⟨r_8, f_8, rfl, N_8, K_8, ge_8, ne_8, P_8, A_8, u_8, v_8⟩
    have N0 := Fr.app N0 N_8
    have Z_8 : n0 ≤ h_8.size := Nat.le_trans Z_7 K_8.1
    have hf_8 : ∀ j, j < 6 → f_8 j = VS s0 s1 s2 s3 s4 s5 s6 j := fun j hj => by
      by_cases g : j < 5
      · rw [u_8 j g]; exact hf_7 j g
      · obtain rfl : j = 5 := by omega
        exact v_8
    rw [show ((5 : Int32) + 1 : Int32) = (6 : Int32) from by decide] at P_8
    refine o_iload C X at_246 248 rfl rfl ?_
    refine o_bipush C X at_248 250 rfl (6 : Int32) (by decide) ?_
    refine o_icmpY C X at_250 260 (by decide) (by decide) (flt (by decide : ¬ ((6 : Int32) < (6 : Int32)))).2.2.2 ?_
    refine o_iconst C X at_260 261 rfl (0 : Int32) (by decide) ?_
    refine o_istore C X at_261 263 rfl #[.val (.int x0), .val (.int x1), .val (.int x2), .val (.int x3), .val (.int (6 : Int32)), .val (.long s0), .second, .val (.long s1), .second, .val (.long s2), .second, .val (.long s3), .second, .val (.long s4), .second, .val (.long s5), .second, .val (.long s6), .second, .val (.int (FCL s0)), .val (.int (FCL s1)), .val (.int (FCL s2)), .val (.int (FCL s3)), .val (.int (FCL s4)), .val (.int (FCL s5)), .val (.int (FCL s6)), .val (.int qq), .val (.ref a), .val (.int (0 : Int32))] rfl ?_
    refine o_iload C X at_263 265 rfl rfl ?_
    refine o_ifN C X at_265 268 rfl ((if0 _ _).trans (tlt (by decide : (0 : Int32) < (6 : Int32))).2.2.2) ?_
    refine o_iload C X at_268 270 rfl rfl ?_
    refine o_iload C X at_270 272 rfl rfl ?_
    refine o_iload C X at_272 274 rfl rfl ?_
    refine o_callP C X hZ (by rw [hml]; rfl) (own := "org/triplewright/engine/IntListLowerBoundPinLaw") (y := (⟨"org/triplewright/engine/IntListLowerBoundPinLaw", "below", "(II)I"⟩ : MethodName)) (rf := 0) (rl := 0) hown (hw _ (List.mem_of_getElem? (i := 32) rfl)) (hw _ (List.mem_of_getElem? (i := 33) rfl)) (hw _ (List.mem_of_getElem? (i := 2) rfl)) (hw _ (List.mem_of_getElem? (i := 34) rfl)) (by decide) (asL := [(.int (FCL s0)), (.int qq)]) (rm7 l Z a0 hw (FCL s0) qq h_8) e_8 pd_1 rfl rfl 1 (Nat.le_of_eq rfl) (by decide) (by decide) (by decide) (by decide) at_274 277 rfl ?_
    intro T X e_8
    refine o_iadd C X at_277 278 rfl ?_
    refine o_istore C X at_278 280 rfl #[.val (.int x0), .val (.int x1), .val (.int x2), .val (.int x3), .val (.int (6 : Int32)), .val (.long s0), .second, .val (.long s1), .second, .val (.long s2), .second, .val (.long s3), .second, .val (.long s4), .second, .val (.long s5), .second, .val (.long s6), .second, .val (.int (FCL s0)), .val (.int (FCL s1)), .val (.int (FCL s2)), .val (.int (FCL s3)), .val (.int (FCL s4)), .val (.int (FCL s5)), .val (.int (FCL s6)), .val (.int qq), .val (.ref a), .val (.int ((0 : Int32) + (FB (FCL s0) qq)))] rfl ?_
    refine o_iload C X at_280 282 rfl rfl ?_
    refine o_iconst C X at_282 283 rfl (1 : Int32) (by decide) ?_
    refine o_icmpN C X at_283 286 rfl (tlt (by decide : (1 : Int32) < (6 : Int32))).2.2.2 ?_
    refine o_iload C X at_286 288 rfl rfl ?_
    refine o_iload C X at_288 290 rfl rfl ?_
    refine o_iload C X at_290 292 rfl rfl ?_
    refine o_callP C X hZ (by rw [hml]; rfl) (own := "org/triplewright/engine/IntListLowerBoundPinLaw") (y := (⟨"org/triplewright/engine/IntListLowerBoundPinLaw", "below", "(II)I"⟩ : MethodName)) (rf := 0) (rl := 0) hown (hw _ (List.mem_of_getElem? (i := 32) rfl)) (hw _ (List.mem_of_getElem? (i := 33) rfl)) (hw _ (List.mem_of_getElem? (i := 2) rfl)) (hw _ (List.mem_of_getElem? (i := 34) rfl)) (by decide) (asL := [(.int (FCL s1)), (.int qq)]) (rm7 l Z a0 hw (FCL s1) qq h_8) e_8 pd_1 rfl rfl 1 (Nat.le_of_eq rfl) (by decide) (by decide) (by decide) (by decide) at_292 295 rfl ?_
    intro T X e_8
    refine o_iadd C X at_295 296 rfl ?_
    refine o_istore C X at_296 298 rfl #[.val (.int x0), .val (.int x1), .val (.int x2), .val (.int x3), .val (.int (6 : Int32)), .val (.long s0), .second, .val (.long s1), .second, .val (.long s2), .second, .val (.long s3), .second, .val (.long s4), .second, .val (.long s5), .second, .val (.long s6), .second, .val (.int (FCL s0)), .val (.int (FCL s1)), .val (.int (FCL s2)), .val (.int (FCL s3)), .val (.int (FCL s4)), .val (.int (FCL s5)), .val (.int (FCL s6)), .val (.int qq), .val (.ref a), .val (.int (((0 : Int32) + (FB (FCL s0) qq)) + (FB (FCL s1) qq)))] rfl ?_
    refine o_iload C X at_298 300 rfl rfl ?_
    refine o_iconst C X at_300 301 rfl (2 : Int32) (by decide) ?_
    refine o_icmpN C X at_301 304 rfl (tlt (by decide : (2 : Int32) < (6 : Int32))).2.2.2 ?_
    refine o_iload C X at_304 306 rfl rfl ?_
    refine o_iload C X at_306 308 rfl rfl ?_
    refine o_iload C X at_308 310 rfl rfl ?_
    refine o_callP C X hZ (by rw [hml]; rfl) (own := "org/triplewright/engine/IntListLowerBoundPinLaw") (y := (⟨"org/triplewright/engine/IntListLowerBoundPinLaw", "below", "(II)I"⟩ : MethodName)) (rf := 0) (rl := 0) hown (hw _ (List.mem_of_getElem? (i := 32) rfl)) (hw _ (List.mem_of_getElem? (i := 33) rfl)) (hw _ (List.mem_of_getElem? (i := 2) rfl)) (hw _ (List.mem_of_getElem? (i := 34) rfl)) (by decide) (asL := [(.int (FCL s2)), (.int qq)]) (rm7 l Z a0 hw (FCL s2) qq h_8) e_8 pd_1 rfl rfl 1 (Nat.le_of_eq rfl) (by decide) (by decide) (by decide) (by decide) at_310 313 rfl ?_
    intro T X e_8
    refine o_iadd C X at_313 314 rfl ?_
    refine o_istore C X at_314 316 rfl #[.val (.int x0), .val (.int x1), .val (.int x2), .val (.int x3), .val (.int (6 : Int32)), .val (.long s0), .second, .val (.long s1), .second, .val (.long s2), .second, .val (.long s3), .second, .val (.long s4), .second, .val (.long s5), .second, .val (.long s6), .second, .val (.int (FCL s0)), .val (.int (FCL s1)), .val (.int (FCL s2)), .val (.int (FCL s3)), .val (.int (FCL s4)), .val (.int (FCL s5)), .val (.int (FCL s6)), .val (.int qq), .val (.ref a), .val (.int ((((0 : Int32) + (FB (FCL s0) qq)) + (FB (FCL s1) qq)) + (FB (FCL s2) qq)))] rfl ?_
    refine o_iload C X at_316 318 rfl rfl ?_
    refine o_iconst C X at_318 319 rfl (3 : Int32) (by decide) ?_
    refine o_icmpN C X at_319 322 rfl (tlt (by decide : (3 : Int32) < (6 : Int32))).2.2.2 ?_
    refine o_iload C X at_322 324 rfl rfl ?_
    refine o_iload C X at_324 326 rfl rfl ?_
    refine o_iload C X at_326 328 rfl rfl ?_
    refine o_callP C X hZ (by rw [hml]; rfl) (own := "org/triplewright/engine/IntListLowerBoundPinLaw") (y := (⟨"org/triplewright/engine/IntListLowerBoundPinLaw", "below", "(II)I"⟩ : MethodName)) (rf := 0) (rl := 0) hown (hw _ (List.mem_of_getElem? (i := 32) rfl)) (hw _ (List.mem_of_getElem? (i := 33) rfl)) (hw _ (List.mem_of_getElem? (i := 2) rfl)) (hw _ (List.mem_of_getElem? (i := 34) rfl)) (by decide) (asL := [(.int (FCL s3)), (.int qq)]) (rm7 l Z a0 hw (FCL s3) qq h_8) e_8 pd_1 rfl rfl 1 (Nat.le_of_eq rfl) (by decide) (by decide) (by decide) (by decide) at_328 331 rfl ?_
    intro T X e_8
    refine o_iadd C X at_331 332 rfl ?_
    refine o_istore C X at_332 334 rfl #[.val (.int x0), .val (.int x1), .val (.int x2), .val (.int x3), .val (.int (6 : Int32)), .val (.long s0), .second, .val (.long s1), .second, .val (.long s2), .second, .val (.long s3), .second, .val (.long s4), .second, .val (.long s5), .second, .val (.long s6), .second, .val (.int (FCL s0)), .val (.int (FCL s1)), .val (.int (FCL s2)), .val (.int (FCL s3)), .val (.int (FCL s4)), .val (.int (FCL s5)), .val (.int (FCL s6)), .val (.int qq), .val (.ref a), .val (.int (((((0 : Int32) + (FB (FCL s0) qq)) + (FB (FCL s1) qq)) + (FB (FCL s2) qq)) + (FB (FCL s3) qq)))] rfl ?_
    refine o_iload C X at_334 336 rfl rfl ?_
    refine o_iconst C X at_336 337 rfl (4 : Int32) (by decide) ?_
    refine o_icmpN C X at_337 340 rfl (tlt (by decide : (4 : Int32) < (6 : Int32))).2.2.2 ?_
    refine o_iload C X at_340 342 rfl rfl ?_
    refine o_iload C X at_342 344 rfl rfl ?_
    refine o_iload C X at_344 346 rfl rfl ?_
    refine o_callP C X hZ (by rw [hml]; rfl) (own := "org/triplewright/engine/IntListLowerBoundPinLaw") (y := (⟨"org/triplewright/engine/IntListLowerBoundPinLaw", "below", "(II)I"⟩ : MethodName)) (rf := 0) (rl := 0) hown (hw _ (List.mem_of_getElem? (i := 32) rfl)) (hw _ (List.mem_of_getElem? (i := 33) rfl)) (hw _ (List.mem_of_getElem? (i := 2) rfl)) (hw _ (List.mem_of_getElem? (i := 34) rfl)) (by decide) (asL := [(.int (FCL s4)), (.int qq)]) (rm7 l Z a0 hw (FCL s4) qq h_8) e_8 pd_1 rfl rfl 1 (Nat.le_of_eq rfl) (by decide) (by decide) (by decide) (by decide) at_346 349 rfl ?_
    intro T X e_8
    refine o_iadd C X at_349 350 rfl ?_
    refine o_istore C X at_350 352 rfl #[.val (.int x0), .val (.int x1), .val (.int x2), .val (.int x3), .val (.int (6 : Int32)), .val (.long s0), .second, .val (.long s1), .second, .val (.long s2), .second, .val (.long s3), .second, .val (.long s4), .second, .val (.long s5), .second, .val (.long s6), .second, .val (.int (FCL s0)), .val (.int (FCL s1)), .val (.int (FCL s2)), .val (.int (FCL s3)), .val (.int (FCL s4)), .val (.int (FCL s5)), .val (.int (FCL s6)), .val (.int qq), .val (.ref a), .val (.int ((((((0 : Int32) + (FB (FCL s0) qq)) + (FB (FCL s1) qq)) + (FB (FCL s2) qq)) + (FB (FCL s3) qq)) + (FB (FCL s4) qq)))] rfl ?_
    refine o_iload C X at_352 354 rfl rfl ?_
    refine o_iconst C X at_354 355 rfl (5 : Int32) (by decide) ?_
    refine o_icmpN C X at_355 358 rfl (tlt (by decide : (5 : Int32) < (6 : Int32))).2.2.2 ?_
    refine o_iload C X at_358 360 rfl rfl ?_
    refine o_iload C X at_360 362 rfl rfl ?_
    refine o_iload C X at_362 364 rfl rfl ?_
    refine o_callP C X hZ (by rw [hml]; rfl) (own := "org/triplewright/engine/IntListLowerBoundPinLaw") (y := (⟨"org/triplewright/engine/IntListLowerBoundPinLaw", "below", "(II)I"⟩ : MethodName)) (rf := 0) (rl := 0) hown (hw _ (List.mem_of_getElem? (i := 32) rfl)) (hw _ (List.mem_of_getElem? (i := 33) rfl)) (hw _ (List.mem_of_getElem? (i := 2) rfl)) (hw _ (List.mem_of_getElem? (i := 34) rfl)) (by decide) (asL := [(.int (FCL s5)), (.int qq)]) (rm7 l Z a0 hw (FCL s5) qq h_8) e_8 pd_1 rfl rfl 1 (Nat.le_of_eq rfl) (by decide) (by decide) (by decide) (by decide) at_364 367 rfl ?_
    intro T X e_8
    refine o_iadd C X at_367 368 rfl ?_
    refine o_istore C X at_368 370 rfl #[.val (.int x0), .val (.int x1), .val (.int x2), .val (.int x3), .val (.int (6 : Int32)), .val (.long s0), .second, .val (.long s1), .second, .val (.long s2), .second, .val (.long s3), .second, .val (.long s4), .second, .val (.long s5), .second, .val (.long s6), .second, .val (.int (FCL s0)), .val (.int (FCL s1)), .val (.int (FCL s2)), .val (.int (FCL s3)), .val (.int (FCL s4)), .val (.int (FCL s5)), .val (.int (FCL s6)), .val (.int qq), .val (.ref a), .val (.int (((((((0 : Int32) + (FB (FCL s0) qq)) + (FB (FCL s1) qq)) + (FB (FCL s2) qq)) + (FB (FCL s3) qq)) + (FB (FCL s4) qq)) + (FB (FCL s5) qq)))] rfl ?_
    refine o_iload C X at_370 372 rfl rfl ?_
    refine o_bipush C X at_372 374 rfl (6 : Int32) (by decide) ?_
    refine o_icmpY C X at_374 389 (by decide) (by decide) (flt (by decide : ¬ ((6 : Int32) < (6 : Int32)))).2.2.2 ?_
    refine o_aload C X at_389 391 rfl rfl rfl ?_
    refine o_iload C X at_391 393 rfl rfl ?_
    refine o_callV C X hZ (by rw [hml]; rfl) (own := "org/triplewright/engine/IntListLowerBoundPinLaw") (y := (⟨"org/triplewright/engine/IntList", "lowerBound", "(I)I"⟩ : MethodName)) hown (hw _ (List.mem_of_getElem? (i := 35) rfl)) (hw _ (List.mem_of_getElem? (i := 36) rfl)) (hw _ (List.mem_of_getElem? (i := 38) rfl)) (hw _ (List.mem_of_getElem? (i := 37) rfl)) (hw _ (List.mem_of_getElem? (i := 15) rfl)) (hw _ (List.mem_of_getElem? (i := 39) rfl)) (by decide) (asL := [(.int qq)]) (a := a) (rm8 l Z a0 hw a r_8 qq (6 : Int32) f_8 6 8 h_8 (by decide) (by decide) rfl (fun i j h1 h2 => by rw [hf_8 i (by omega), hf_8 j h2]; exact hso i j h1 (by omega)) P_8 A_8) e_8 P_8.1 pd_4 rfl rfl 0 (Nat.le_of_eq rfl) (by decide) (by decide) (by decide) (by decide) at_393 396 rfl ?_
    rintro T h_9 _ L_9 X e_9 ⟨t_9, ht_9, rfl, rfl, hh_9, p_9, q_9⟩
    have N0 : Fr n0 _ := Fr.app N0 (Fr.nil n0)
    refine o_iload C X at_396 398 rfl rfl ?_
    refine o_icmpN C X at_398 401 rfl (teq (own_sum (VS s0 s1 s2 s3 s4 s5 s6) qq 6 t_9 ht_9 (fun i hi => by rw [← hf_8 i (by omega)]; exact p_9 i hi) (fun i h1 h2 => by rw [← hf_8 i h2]; exact q_9 i h1 h2) : (Int32.ofNat t_9) = (((((((0 : Int32) + (FB (FCL s0) qq)) + (FB (FCL s1) qq)) + (FB (FCL s2) qq)) + (FB (FCL s3) qq)) + (FB (FCL s4) qq)) + (FB (FCL s5) qq)))).2 ?_
    refine o_iconst C X at_401 402 rfl (1 : Int32) (by decide) ?_
    refine o_goto C X at_402 406 (by decide) (by decide) ?_
    exact o_retN C X hret (by simp) hlk at_406 ⟨congrArg some (congrArg _ (rfl)), N0⟩ (by decide) (by decide)
  · rw [hk]
    refine o_new C X hZ hown (hw _ (List.mem_of_getElem? (i := 13) rfl)) (hw _ (List.mem_of_getElem? (i := 14) rfl)) (hw _ (List.mem_of_getElem? (i := 15) rfl)) e0 at_160 (by decide) (by decide) 163 rfl ?_
    intro T h_1 a g_a X e_1 E_1 A_1 D_1
    have ge_a : n0 ≤ a := by rw [g_a]; exact Z0
    have Z_1 : n0 ≤ h_1.size := Nat.le_trans Z0 E_1.1
    have Pa_1 : IL Z h_1 a .null (.int (0 : Int32)) := ⟨A_1, D_1 (Or.inl (hw _ (List.mem_of_getElem? (i := 24) rfl))) (ty := (.array .int)) (by decide), D_1 (Or.inl (hw _ (List.mem_of_getElem? (i := 31) rfl))) (ty := .int) (by decide)⟩
    refine o_dup C X at_163 164 rfl rfl ?_
    refine o_callI C X hZ (by rw [hml]; rfl) (own := "org/triplewright/engine/IntListLowerBoundPinLaw") (y := (⟨"org/triplewright/engine/IntList", "<init>", "()V"⟩ : MethodName)) hown rfl (hw _ (List.mem_of_getElem? (i := 16) rfl)) (hw _ (List.mem_of_getElem? (i := 17) rfl)) (hw _ (List.mem_of_getElem? (i := 15) rfl)) (hw _ (List.mem_of_getElem? (i := 18) rfl)) (by decide) (asL := []) (a := a) (rm4 l Z a0 hw a h_1 n0 Z_1 ge_a Pa_1) e_1 pd_6 rfl rfl 1 (Nat.le_of_eq rfl) (by decide) (by decide) (by decide) (by decide) at_164 167 rfl ?_
    rintro T h_2 _ L_2 X e_2 ⟨r_2, rfl, N_2, K_2, ge_2, ne_2, P_2, A_2⟩
    have N0 := Fr.app N0 N_2
    have Z_2 : n0 ≤ h_2.size := Nat.le_trans Z_1 K_2.1
    refine o_astore C X at_167 169 rfl rfl #[.val (.int x0), .val (.int x1), .val (.int x2), .val (.int x3), .val (.int (7 : Int32)), .val (.long s0), .second, .val (.long s1), .second, .val (.long s2), .second, .val (.long s3), .second, .val (.long s4), .second, .val (.long s5), .second, .val (.long s6), .second, .val (.int (FCL s0)), .val (.int (FCL s1)), .val (.int (FCL s2)), .val (.int (FCL s3)), .val (.int (FCL s4)), .val (.int (FCL s5)), .val (.int (FCL s6)), .val (.int qq), .val (.ref a), .unset] rfl ?_
    refine o_iload C X at_169 171 rfl rfl ?_
    obtain ⟨f00, hf, A00⟩ : ∃ f : Nat → Int32, (∀ j, j < 0 → f j = VS s0 s1 s2 s3 s4 s5 s6 j) ∧ AI Z h_2 r_2 .int 4 f := ⟨_, fun j hj => absurd hj (Nat.not_lt_zero _), A_2⟩
    refine o_ifN C X at_171 174 rfl ((if0 _ _).trans (tlt (by decide : (0 : Int32) < (7 : Int32))).2.2.2) ?_
    refine o_aload C X at_174 176 rfl rfl rfl ?_
    refine o_iload C X at_176 178 rfl rfl ?_
    refine o_callV C X hZ (by rw [hml]; rfl) (own := "org/triplewright/engine/IntListLowerBoundPinLaw") (y := (⟨"org/triplewright/engine/IntList", "add", "(I)V"⟩ : MethodName)) hown (hw _ (List.mem_of_getElem? (i := 25) rfl)) (hw _ (List.mem_of_getElem? (i := 26) rfl)) (hw _ (List.mem_of_getElem? (i := 28) rfl)) (hw _ (List.mem_of_getElem? (i := 27) rfl)) (hw _ (List.mem_of_getElem? (i := 15) rfl)) (hw _ (List.mem_of_getElem? (i := 29) rfl)) (by decide) (asL := [(.int (FCL s0))]) (a := a) (rm6 l Z a0 hw a r_2 (FCL s0) (0 : Int32) f00 0 4 h_2 (by decide) (by decide) n0 Z_2 ge_a ge_2 ne_2 rfl P_2 A00) e_2 P_2.1 pd_3 rfl rfl 0 (Nat.le_of_eq rfl) (by decide) (by decide) (by decide) (by decide) at_178 181 rfl ?_
    rintro T h_3 _ L_3 X e_3 ⟨r_3, f_3, rfl, N_3, K_3, ge_3, ne_3, P_3, A_3, u_3, v_3⟩
    have N0 := Fr.app N0 N_3
    have Z_3 : n0 ≤ h_3.size := Nat.le_trans Z_2 K_3.1
    have hf_3 : ∀ j, j < 1 → f_3 j = VS s0 s1 s2 s3 s4 s5 s6 j := fun j hj => by
      by_cases g : j < 0
      · rw [u_3 j g]; exact hf j g
      · obtain rfl : j = 0 := by omega
        exact v_3
    rw [show ((0 : Int32) + 1 : Int32) = (1 : Int32) from by decide] at P_3
    refine o_iload C X at_181 183 rfl rfl ?_
    refine o_iconst C X at_183 184 rfl (1 : Int32) (by decide) ?_
    refine o_icmpN C X at_184 187 rfl (tlt (by decide : (1 : Int32) < (7 : Int32))).2.2.2 ?_
    refine o_aload C X at_187 189 rfl rfl rfl ?_
    refine o_iload C X at_189 191 rfl rfl ?_
    refine o_callV C X hZ (by rw [hml]; rfl) (own := "org/triplewright/engine/IntListLowerBoundPinLaw") (y := (⟨"org/triplewright/engine/IntList", "add", "(I)V"⟩ : MethodName)) hown (hw _ (List.mem_of_getElem? (i := 25) rfl)) (hw _ (List.mem_of_getElem? (i := 26) rfl)) (hw _ (List.mem_of_getElem? (i := 28) rfl)) (hw _ (List.mem_of_getElem? (i := 27) rfl)) (hw _ (List.mem_of_getElem? (i := 15) rfl)) (hw _ (List.mem_of_getElem? (i := 29) rfl)) (by decide) (asL := [(.int (FCL s1))]) (a := a) (rm6 l Z a0 hw a r_3 (FCL s1) (1 : Int32) f_3 1 4 h_3 (by decide) (by decide) n0 Z_3 ge_a ge_3 ne_3 rfl P_3 A_3) e_3 P_3.1 pd_3 rfl rfl 0 (Nat.le_of_eq rfl) (by decide) (by decide) (by decide) (by decide) at_191 194 rfl ?_
    rintro T h_4 _ L_4 X e_4 ⟨r_4, f_4, rfl, N_4, K_4, ge_4, ne_4, P_4, A_4, u_4, v_4⟩
    have N0 := Fr.app N0 N_4
    have Z_4 : n0 ≤ h_4.size := Nat.le_trans Z_3 K_4.1
    have hf_4 : ∀ j, j < 2 → f_4 j = VS s0 s1 s2 s3 s4 s5 s6 j := fun j hj => by
      by_cases g : j < 1
      · rw [u_4 j g]; exact hf_3 j g
      · obtain rfl : j = 1 := by omega
        exact v_4
    rw [show ((1 : Int32) + 1 : Int32) = (2 : Int32) from by decide] at P_4
    refine o_iload C X at_194 196 rfl rfl ?_
    refine o_iconst C X at_196 197 rfl (2 : Int32) (by decide) ?_
    refine o_icmpN C X at_197 200 rfl (tlt (by decide : (2 : Int32) < (7 : Int32))).2.2.2 ?_
    refine o_aload C X at_200 202 rfl rfl rfl ?_
    refine o_iload C X at_202 204 rfl rfl ?_
    refine o_callV C X hZ (by rw [hml]; rfl) (own := "org/triplewright/engine/IntListLowerBoundPinLaw") (y := (⟨"org/triplewright/engine/IntList", "add", "(I)V"⟩ : MethodName)) hown (hw _ (List.mem_of_getElem? (i := 25) rfl)) (hw _ (List.mem_of_getElem? (i := 26) rfl)) (hw _ (List.mem_of_getElem? (i := 28) rfl)) (hw _ (List.mem_of_getElem? (i := 27) rfl)) (hw _ (List.mem_of_getElem? (i := 15) rfl)) (hw _ (List.mem_of_getElem? (i := 29) rfl)) (by decide) (asL := [(.int (FCL s2))]) (a := a) (rm6 l Z a0 hw a r_4 (FCL s2) (2 : Int32) f_4 2 4 h_4 (by decide) (by decide) n0 Z_4 ge_a ge_4 ne_4 rfl P_4 A_4) e_4 P_4.1 pd_3 rfl rfl 0 (Nat.le_of_eq rfl) (by decide) (by decide) (by decide) (by decide) at_204 207 rfl ?_
    rintro T h_5 _ L_5 X e_5 ⟨r_5, f_5, rfl, N_5, K_5, ge_5, ne_5, P_5, A_5, u_5, v_5⟩
    have N0 := Fr.app N0 N_5
    have Z_5 : n0 ≤ h_5.size := Nat.le_trans Z_4 K_5.1
    have hf_5 : ∀ j, j < 3 → f_5 j = VS s0 s1 s2 s3 s4 s5 s6 j := fun j hj => by
      by_cases g : j < 2
      · rw [u_5 j g]; exact hf_4 j g
      · obtain rfl : j = 2 := by omega
        exact v_5
    rw [show ((2 : Int32) + 1 : Int32) = (3 : Int32) from by decide] at P_5
    refine o_iload C X at_207 209 rfl rfl ?_
    refine o_iconst C X at_209 210 rfl (3 : Int32) (by decide) ?_
    refine o_icmpN C X at_210 213 rfl (tlt (by decide : (3 : Int32) < (7 : Int32))).2.2.2 ?_
    refine o_aload C X at_213 215 rfl rfl rfl ?_
    refine o_iload C X at_215 217 rfl rfl ?_
    refine o_callV C X hZ (by rw [hml]; rfl) (own := "org/triplewright/engine/IntListLowerBoundPinLaw") (y := (⟨"org/triplewright/engine/IntList", "add", "(I)V"⟩ : MethodName)) hown (hw _ (List.mem_of_getElem? (i := 25) rfl)) (hw _ (List.mem_of_getElem? (i := 26) rfl)) (hw _ (List.mem_of_getElem? (i := 28) rfl)) (hw _ (List.mem_of_getElem? (i := 27) rfl)) (hw _ (List.mem_of_getElem? (i := 15) rfl)) (hw _ (List.mem_of_getElem? (i := 29) rfl)) (by decide) (asL := [(.int (FCL s3))]) (a := a) (rm6 l Z a0 hw a r_5 (FCL s3) (3 : Int32) f_5 3 4 h_5 (by decide) (by decide) n0 Z_5 ge_a ge_5 ne_5 rfl P_5 A_5) e_5 P_5.1 pd_3 rfl rfl 0 (Nat.le_of_eq rfl) (by decide) (by decide) (by decide) (by decide) at_217 220 rfl ?_
    rintro T h_6 _ L_6 X e_6 ⟨r_6, f_6, rfl, N_6, K_6, ge_6, ne_6, P_6, A_6, u_6, v_6⟩
    have N0 := Fr.app N0 N_6
    have Z_6 : n0 ≤ h_6.size := Nat.le_trans Z_5 K_6.1
    have hf_6 : ∀ j, j < 4 → f_6 j = VS s0 s1 s2 s3 s4 s5 s6 j := fun j hj => by
      by_cases g : j < 3
      · rw [u_6 j g]; exact hf_5 j g
      · obtain rfl : j = 3 := by omega
        exact v_6
    rw [show ((3 : Int32) + 1 : Int32) = (4 : Int32) from by decide] at P_6
    refine o_iload C X at_220 222 rfl rfl ?_
    refine o_iconst C X at_222 223 rfl (4 : Int32) (by decide) ?_
    refine o_icmpN C X at_223 226 rfl (tlt (by decide : (4 : Int32) < (7 : Int32))).2.2.2 ?_
    refine o_aload C X at_226 228 rfl rfl rfl ?_
    refine o_iload C X at_228 230 rfl rfl ?_
    refine o_callV C X hZ (by rw [hml]; rfl) (own := "org/triplewright/engine/IntListLowerBoundPinLaw") (y := (⟨"org/triplewright/engine/IntList", "add", "(I)V"⟩ : MethodName)) hown (hw _ (List.mem_of_getElem? (i := 25) rfl)) (hw _ (List.mem_of_getElem? (i := 26) rfl)) (hw _ (List.mem_of_getElem? (i := 28) rfl)) (hw _ (List.mem_of_getElem? (i := 27) rfl)) (hw _ (List.mem_of_getElem? (i := 15) rfl)) (hw _ (List.mem_of_getElem? (i := 29) rfl)) (by decide) (asL := [(.int (FCL s4))]) (a := a) (rg6 l Z a0 hw a r_6 (FCL s4) (4 : Int32) f_6 4 h_6 rfl n0 Z_6 ge_a ge_6 ne_6 rfl P_6 A_6) e_6 P_6.1 pd_3 rfl rfl 0 (Nat.le_of_eq rfl) (by decide) (by decide) (by decide) (by decide) at_230 233 rfl ?_
    rintro T h_7 _ L_7 X e_7 ⟨r_7, f_7, rfl, N_7, K_7, ge_7, ne_7, P_7, A_7, u_7, v_7⟩
    have N0 := Fr.app N0 N_7
    have Z_7 : n0 ≤ h_7.size := Nat.le_trans Z_6 K_7.1
    have hf_7 : ∀ j, j < 5 → f_7 j = VS s0 s1 s2 s3 s4 s5 s6 j := fun j hj => by
      by_cases g : j < 4
      · rw [u_7 j g]; exact hf_6 j g
      · obtain rfl : j = 4 := by omega
        exact v_7
    rw [show ((4 : Int32) + 1 : Int32) = (5 : Int32) from by decide] at P_7
    refine o_iload C X at_233 235 rfl rfl ?_
    refine o_iconst C X at_235 236 rfl (5 : Int32) (by decide) ?_
    refine o_icmpN C X at_236 239 rfl (tlt (by decide : (5 : Int32) < (7 : Int32))).2.2.2 ?_
    refine o_aload C X at_239 241 rfl rfl rfl ?_
    refine o_iload C X at_241 243 rfl rfl ?_
    refine o_callV C X hZ (by rw [hml]; rfl) (own := "org/triplewright/engine/IntListLowerBoundPinLaw") (y := (⟨"org/triplewright/engine/IntList", "add", "(I)V"⟩ : MethodName)) hown (hw _ (List.mem_of_getElem? (i := 25) rfl)) (hw _ (List.mem_of_getElem? (i := 26) rfl)) (hw _ (List.mem_of_getElem? (i := 28) rfl)) (hw _ (List.mem_of_getElem? (i := 27) rfl)) (hw _ (List.mem_of_getElem? (i := 15) rfl)) (hw _ (List.mem_of_getElem? (i := 29) rfl)) (by decide) (asL := [(.int (FCL s5))]) (a := a) (rm6 l Z a0 hw a r_7 (FCL s5) (5 : Int32) f_7 5 8 h_7 (by decide) (by decide) n0 Z_7 ge_a ge_7 ne_7 rfl P_7 A_7) e_7 P_7.1 pd_3 rfl rfl 0 (Nat.le_of_eq rfl) (by decide) (by decide) (by decide) (by decide) at_243 246 rfl ?_
    rintro T h_8 _ L_8 X e_8 ⟨r_8, f_8, rfl, N_8, K_8, ge_8, ne_8, P_8, A_8, u_8, v_8⟩
    have N0 := Fr.app N0 N_8
    have Z_8 : n0 ≤ h_8.size := Nat.le_trans Z_7 K_8.1
    have hf_8 : ∀ j, j < 6 → f_8 j = VS s0 s1 s2 s3 s4 s5 s6 j := fun j hj => by
      by_cases g : j < 5
      · rw [u_8 j g]; exact hf_7 j g
      · obtain rfl : j = 5 := by omega
        exact v_8
    rw [show ((5 : Int32) + 1 : Int32) = (6 : Int32) from by decide] at P_8
    refine o_iload C X at_246 248 rfl rfl ?_
    refine o_bipush C X at_248 250 rfl (6 : Int32) (by decide) ?_
    refine o_icmpN C X at_250 253 rfl (tlt (by decide : (6 : Int32) < (7 : Int32))).2.2.2 ?_
    refine o_aload C X at_253 255 rfl rfl rfl ?_
    refine o_iload C X at_255 257 rfl rfl ?_
    refine o_callV C X hZ (by rw [hml]; rfl) (own := "org/triplewright/engine/IntListLowerBoundPinLaw") (y := (⟨"org/triplewright/engine/IntList", "add", "(I)V"⟩ : MethodName)) hown (hw _ (List.mem_of_getElem? (i := 25) rfl)) (hw _ (List.mem_of_getElem? (i := 26) rfl)) (hw _ (List.mem_of_getElem? (i := 28) rfl)) (hw _ (List.mem_of_getElem? (i := 27) rfl)) (hw _ (List.mem_of_getElem? (i := 15) rfl)) (hw _ (List.mem_of_getElem? (i := 29) rfl)) (by decide) (asL := [(.int (FCL s6))]) (a := a) (rm6 l Z a0 hw a r_8 (FCL s6) (6 : Int32) f_8 6 8 h_8 (by decide) (by decide) n0 Z_8 ge_a ge_8 ne_8 rfl P_8 A_8) e_8 P_8.1 pd_3 rfl rfl 0 (Nat.le_of_eq rfl) (by decide) (by decide) (by decide) (by decide) at_257 260 rfl ?_
    rintro T h_9 _ L_9 X e_9 ⟨r_9, f_9, rfl, N_9, K_9, ge_9, ne_9, P_9, A_9, u_9, v_9⟩
    have N0 := Fr.app N0 N_9
    have Z_9 : n0 ≤ h_9.size := Nat.le_trans Z_8 K_9.1
    have hf_9 : ∀ j, j < 7 → f_9 j = VS s0 s1 s2 s3 s4 s5 s6 j := fun j hj => by
      by_cases g : j < 6
      · rw [u_9 j g]; exact hf_8 j g
      · obtain rfl : j = 6 := by omega
        exact v_9
    rw [show ((6 : Int32) + 1 : Int32) = (7 : Int32) from by decide] at P_9
    refine o_iconst C X at_260 261 rfl (0 : Int32) (by decide) ?_
    refine o_istore C X at_261 263 rfl #[.val (.int x0), .val (.int x1), .val (.int x2), .val (.int x3), .val (.int (7 : Int32)), .val (.long s0), .second, .val (.long s1), .second, .val (.long s2), .second, .val (.long s3), .second, .val (.long s4), .second, .val (.long s5), .second, .val (.long s6), .second, .val (.int (FCL s0)), .val (.int (FCL s1)), .val (.int (FCL s2)), .val (.int (FCL s3)), .val (.int (FCL s4)), .val (.int (FCL s5)), .val (.int (FCL s6)), .val (.int qq), .val (.ref a), .val (.int (0 : Int32))] rfl ?_
    refine o_iload C X at_263 265 rfl rfl ?_
    refine o_ifN C X at_265 268 rfl ((if0 _ _).trans (tlt (by decide : (0 : Int32) < (7 : Int32))).2.2.2) ?_
    refine o_iload C X at_268 270 rfl rfl ?_
    refine o_iload C X at_270 272 rfl rfl ?_
    refine o_iload C X at_272 274 rfl rfl ?_
    refine o_callP C X hZ (by rw [hml]; rfl) (own := "org/triplewright/engine/IntListLowerBoundPinLaw") (y := (⟨"org/triplewright/engine/IntListLowerBoundPinLaw", "below", "(II)I"⟩ : MethodName)) (rf := 0) (rl := 0) hown (hw _ (List.mem_of_getElem? (i := 32) rfl)) (hw _ (List.mem_of_getElem? (i := 33) rfl)) (hw _ (List.mem_of_getElem? (i := 2) rfl)) (hw _ (List.mem_of_getElem? (i := 34) rfl)) (by decide) (asL := [(.int (FCL s0)), (.int qq)]) (rm7 l Z a0 hw (FCL s0) qq h_9) e_9 pd_1 rfl rfl 1 (Nat.le_of_eq rfl) (by decide) (by decide) (by decide) (by decide) at_274 277 rfl ?_
    intro T X e_9
    refine o_iadd C X at_277 278 rfl ?_
    refine o_istore C X at_278 280 rfl #[.val (.int x0), .val (.int x1), .val (.int x2), .val (.int x3), .val (.int (7 : Int32)), .val (.long s0), .second, .val (.long s1), .second, .val (.long s2), .second, .val (.long s3), .second, .val (.long s4), .second, .val (.long s5), .second, .val (.long s6), .second, .val (.int (FCL s0)), .val (.int (FCL s1)), .val (.int (FCL s2)), .val (.int (FCL s3)), .val (.int (FCL s4)), .val (.int (FCL s5)), .val (.int (FCL s6)), .val (.int qq), .val (.ref a), .val (.int ((0 : Int32) + (FB (FCL s0) qq)))] rfl ?_
    refine o_iload C X at_280 282 rfl rfl ?_
    refine o_iconst C X at_282 283 rfl (1 : Int32) (by decide) ?_
    refine o_icmpN C X at_283 286 rfl (tlt (by decide : (1 : Int32) < (7 : Int32))).2.2.2 ?_
    refine o_iload C X at_286 288 rfl rfl ?_
    refine o_iload C X at_288 290 rfl rfl ?_
    refine o_iload C X at_290 292 rfl rfl ?_
    refine o_callP C X hZ (by rw [hml]; rfl) (own := "org/triplewright/engine/IntListLowerBoundPinLaw") (y := (⟨"org/triplewright/engine/IntListLowerBoundPinLaw", "below", "(II)I"⟩ : MethodName)) (rf := 0) (rl := 0) hown (hw _ (List.mem_of_getElem? (i := 32) rfl)) (hw _ (List.mem_of_getElem? (i := 33) rfl)) (hw _ (List.mem_of_getElem? (i := 2) rfl)) (hw _ (List.mem_of_getElem? (i := 34) rfl)) (by decide) (asL := [(.int (FCL s1)), (.int qq)]) (rm7 l Z a0 hw (FCL s1) qq h_9) e_9 pd_1 rfl rfl 1 (Nat.le_of_eq rfl) (by decide) (by decide) (by decide) (by decide) at_292 295 rfl ?_
    intro T X e_9
    refine o_iadd C X at_295 296 rfl ?_
    refine o_istore C X at_296 298 rfl #[.val (.int x0), .val (.int x1), .val (.int x2), .val (.int x3), .val (.int (7 : Int32)), .val (.long s0), .second, .val (.long s1), .second, .val (.long s2), .second, .val (.long s3), .second, .val (.long s4), .second, .val (.long s5), .second, .val (.long s6), .second, .val (.int (FCL s0)), .val (.int (FCL s1)), .val (.int (FCL s2)), .val (.int (FCL s3)), .val (.int (FCL s4)), .val (.int (FCL s5)), .val (.int (FCL s6)), .val (.int qq), .val (.ref a), .val (.int (((0 : Int32) + (FB (FCL s0) qq)) + (FB (FCL s1) qq)))] rfl ?_
    refine o_iload C X at_298 300 rfl rfl ?_
    refine o_iconst C X at_300 301 rfl (2 : Int32) (by decide) ?_
    refine o_icmpN C X at_301 304 rfl (tlt (by decide : (2 : Int32) < (7 : Int32))).2.2.2 ?_
    refine o_iload C X at_304 306 rfl rfl ?_
    refine o_iload C X at_306 308 rfl rfl ?_
    refine o_iload C X at_308 310 rfl rfl ?_
    refine o_callP C X hZ (by rw [hml]; rfl) (own := "org/triplewright/engine/IntListLowerBoundPinLaw") (y := (⟨"org/triplewright/engine/IntListLowerBoundPinLaw", "below", "(II)I"⟩ : MethodName)) (rf := 0) (rl := 0) hown (hw _ (List.mem_of_getElem? (i := 32) rfl)) (hw _ (List.mem_of_getElem? (i := 33) rfl)) (hw _ (List.mem_of_getElem? (i := 2) rfl)) (hw _ (List.mem_of_getElem? (i := 34) rfl)) (by decide) (asL := [(.int (FCL s2)), (.int qq)]) (rm7 l Z a0 hw (FCL s2) qq h_9) e_9 pd_1 rfl rfl 1 (Nat.le_of_eq rfl) (by decide) (by decide) (by decide) (by decide) at_310 313 rfl ?_
    intro T X e_9
    refine o_iadd C X at_313 314 rfl ?_
    refine o_istore C X at_314 316 rfl #[.val (.int x0), .val (.int x1), .val (.int x2), .val (.int x3), .val (.int (7 : Int32)), .val (.long s0), .second, .val (.long s1), .second, .val (.long s2), .second, .val (.long s3), .second, .val (.long s4), .second, .val (.long s5), .second, .val (.long s6), .second, .val (.int (FCL s0)), .val (.int (FCL s1)), .val (.int (FCL s2)), .val (.int (FCL s3)), .val (.int (FCL s4)), .val (.int (FCL s5)), .val (.int (FCL s6)), .val (.int qq), .val (.ref a), .val (.int ((((0 : Int32) + (FB (FCL s0) qq)) + (FB (FCL s1) qq)) + (FB (FCL s2) qq)))] rfl ?_
    refine o_iload C X at_316 318 rfl rfl ?_
    refine o_iconst C X at_318 319 rfl (3 : Int32) (by decide) ?_
    refine o_icmpN C X at_319 322 rfl (tlt (by decide : (3 : Int32) < (7 : Int32))).2.2.2 ?_
    refine o_iload C X at_322 324 rfl rfl ?_
    refine o_iload C X at_324 326 rfl rfl ?_
    refine o_iload C X at_326 328 rfl rfl ?_
    refine o_callP C X hZ (by rw [hml]; rfl) (own := "org/triplewright/engine/IntListLowerBoundPinLaw") (y := (⟨"org/triplewright/engine/IntListLowerBoundPinLaw", "below", "(II)I"⟩ : MethodName)) (rf := 0) (rl := 0) hown (hw _ (List.mem_of_getElem? (i := 32) rfl)) (hw _ (List.mem_of_getElem? (i := 33) rfl)) (hw _ (List.mem_of_getElem? (i := 2) rfl)) (hw _ (List.mem_of_getElem? (i := 34) rfl)) (by decide) (asL := [(.int (FCL s3)), (.int qq)]) (rm7 l Z a0 hw (FCL s3) qq h_9) e_9 pd_1 rfl rfl 1 (Nat.le_of_eq rfl) (by decide) (by decide) (by decide) (by decide) at_328 331 rfl ?_
    intro T X e_9
    refine o_iadd C X at_331 332 rfl ?_
    refine o_istore C X at_332 334 rfl #[.val (.int x0), .val (.int x1), .val (.int x2), .val (.int x3), .val (.int (7 : Int32)), .val (.long s0), .second, .val (.long s1), .second, .val (.long s2), .second, .val (.long s3), .second, .val (.long s4), .second, .val (.long s5), .second, .val (.long s6), .second, .val (.int (FCL s0)), .val (.int (FCL s1)), .val (.int (FCL s2)), .val (.int (FCL s3)), .val (.int (FCL s4)), .val (.int (FCL s5)), .val (.int (FCL s6)), .val (.int qq), .val (.ref a), .val (.int (((((0 : Int32) + (FB (FCL s0) qq)) + (FB (FCL s1) qq)) + (FB (FCL s2) qq)) + (FB (FCL s3) qq)))] rfl ?_
    refine o_iload C X at_334 336 rfl rfl ?_
    refine o_iconst C X at_336 337 rfl (4 : Int32) (by decide) ?_
    refine o_icmpN C X at_337 340 rfl (tlt (by decide : (4 : Int32) < (7 : Int32))).2.2.2 ?_
    refine o_iload C X at_340 342 rfl rfl ?_
    refine o_iload C X at_342 344 rfl rfl ?_
    refine o_iload C X at_344 346 rfl rfl ?_
    refine o_callP C X hZ (by rw [hml]; rfl) (own := "org/triplewright/engine/IntListLowerBoundPinLaw") (y := (⟨"org/triplewright/engine/IntListLowerBoundPinLaw", "below", "(II)I"⟩ : MethodName)) (rf := 0) (rl := 0) hown (hw _ (List.mem_of_getElem? (i := 32) rfl)) (hw _ (List.mem_of_getElem? (i := 33) rfl)) (hw _ (List.mem_of_getElem? (i := 2) rfl)) (hw _ (List.mem_of_getElem? (i := 34) rfl)) (by decide) (asL := [(.int (FCL s4)), (.int qq)]) (rm7 l Z a0 hw (FCL s4) qq h_9) e_9 pd_1 rfl rfl 1 (Nat.le_of_eq rfl) (by decide) (by decide) (by decide) (by decide) at_346 349 rfl ?_
    intro T X e_9
    refine o_iadd C X at_349 350 rfl ?_
    refine o_istore C X at_350 352 rfl #[.val (.int x0), .val (.int x1), .val (.int x2), .val (.int x3), .val (.int (7 : Int32)), .val (.long s0), .second, .val (.long s1), .second, .val (.long s2), .second, .val (.long s3), .second, .val (.long s4), .second, .val (.long s5), .second, .val (.long s6), .second, .val (.int (FCL s0)), .val (.int (FCL s1)), .val (.int (FCL s2)), .val (.int (FCL s3)), .val (.int (FCL s4)), .val (.int (FCL s5)), .val (.int (FCL s6)), .val (.int qq), .val (.ref a), .val (.int ((((((0 : Int32) + (FB (FCL s0) qq)) + (FB (FCL s1) qq)) + (FB (FCL s2) qq)) + (FB (FCL s3) qq)) + (FB (FCL s4) qq)))] rfl ?_
    refine o_iload C X at_352 354 rfl rfl ?_
    refine o_iconst C X at_354 355 rfl (5 : Int32) (by decide) ?_
    refine o_icmpN C X at_355 358 rfl (tlt (by decide : (5 : Int32) < (7 : Int32))).2.2.2 ?_
    refine o_iload C X at_358 360 rfl rfl ?_
    refine o_iload C X at_360 362 rfl rfl ?_
    refine o_iload C X at_362 364 rfl rfl ?_
    refine o_callP C X hZ (by rw [hml]; rfl) (own := "org/triplewright/engine/IntListLowerBoundPinLaw") (y := (⟨"org/triplewright/engine/IntListLowerBoundPinLaw", "below", "(II)I"⟩ : MethodName)) (rf := 0) (rl := 0) hown (hw _ (List.mem_of_getElem? (i := 32) rfl)) (hw _ (List.mem_of_getElem? (i := 33) rfl)) (hw _ (List.mem_of_getElem? (i := 2) rfl)) (hw _ (List.mem_of_getElem? (i := 34) rfl)) (by decide) (asL := [(.int (FCL s5)), (.int qq)]) (rm7 l Z a0 hw (FCL s5) qq h_9) e_9 pd_1 rfl rfl 1 (Nat.le_of_eq rfl) (by decide) (by decide) (by decide) (by decide) at_364 367 rfl ?_
    intro T X e_9
    refine o_iadd C X at_367 368 rfl ?_
    refine o_istore C X at_368 370 rfl #[.val (.int x0), .val (.int x1), .val (.int x2), .val (.int x3), .val (.int (7 : Int32)), .val (.long s0), .second, .val (.long s1), .second, .val (.long s2), .second, .val (.long s3), .second, .val (.long s4), .second, .val (.long s5), .second, .val (.long s6), .second, .val (.int (FCL s0)), .val (.int (FCL s1)), .val (.int (FCL s2)), .val (.int (FCL s3)), .val (.int (FCL s4)), .val (.int (FCL s5)), .val (.int (FCL s6)), .val (.int qq), .val (.ref a), .val (.int (((((((0 : Int32) + (FB (FCL s0) qq)) + (FB (FCL s1) qq)) + (FB (FCL s2) qq)) + (FB (FCL s3) qq)) + (FB (FCL s4) qq)) + (FB (FCL s5) qq)))] rfl ?_
    refine o_iload C X at_370 372 rfl rfl ?_
    refine o_bipush C X at_372 374 rfl (6 : Int32) (by decide) ?_
    refine o_icmpN C X at_374 377 rfl (tlt (by decide : (6 : Int32) < (7 : Int32))).2.2.2 ?_
    refine o_iload C X at_377 379 rfl rfl ?_
    refine o_iload C X at_379 381 rfl rfl ?_
    refine o_iload C X at_381 383 rfl rfl ?_
    refine o_callP C X hZ (by rw [hml]; rfl) (own := "org/triplewright/engine/IntListLowerBoundPinLaw") (y := (⟨"org/triplewright/engine/IntListLowerBoundPinLaw", "below", "(II)I"⟩ : MethodName)) (rf := 0) (rl := 0) hown (hw _ (List.mem_of_getElem? (i := 32) rfl)) (hw _ (List.mem_of_getElem? (i := 33) rfl)) (hw _ (List.mem_of_getElem? (i := 2) rfl)) (hw _ (List.mem_of_getElem? (i := 34) rfl)) (by decide) (asL := [(.int (FCL s6)), (.int qq)]) (rm7 l Z a0 hw (FCL s6) qq h_9) e_9 pd_1 rfl rfl 1 (Nat.le_of_eq rfl) (by decide) (by decide) (by decide) (by decide) at_383 386 rfl ?_
    intro T X e_9
    refine o_iadd C X at_386 387 rfl ?_
    refine o_istore C X at_387 389 rfl #[.val (.int x0), .val (.int x1), .val (.int x2), .val (.int x3), .val (.int (7 : Int32)), .val (.long s0), .second, .val (.long s1), .second, .val (.long s2), .second, .val (.long s3), .second, .val (.long s4), .second, .val (.long s5), .second, .val (.long s6), .second, .val (.int (FCL s0)), .val (.int (FCL s1)), .val (.int (FCL s2)), .val (.int (FCL s3)), .val (.int (FCL s4)), .val (.int (FCL s5)), .val (.int (FCL s6)), .val (.int qq), .val (.ref a), .val (.int ((((((((0 : Int32) + (FB (FCL s0) qq)) + (FB (FCL s1) qq)) + (FB (FCL s2) qq)) + (FB (FCL s3) qq)) + (FB (FCL s4) qq)) + (FB (FCL s5) qq)) + (FB (FCL s6) qq)))] rfl ?_
    refine o_aload C X at_389 391 rfl rfl rfl ?_
    refine o_iload C X at_391 393 rfl rfl ?_
    refine o_callV C X hZ (by rw [hml]; rfl) (own := "org/triplewright/engine/IntListLowerBoundPinLaw") (y := (⟨"org/triplewright/engine/IntList", "lowerBound", "(I)I"⟩ : MethodName)) hown (hw _ (List.mem_of_getElem? (i := 35) rfl)) (hw _ (List.mem_of_getElem? (i := 36) rfl)) (hw _ (List.mem_of_getElem? (i := 38) rfl)) (hw _ (List.mem_of_getElem? (i := 37) rfl)) (hw _ (List.mem_of_getElem? (i := 15) rfl)) (hw _ (List.mem_of_getElem? (i := 39) rfl)) (by decide) (asL := [(.int qq)]) (a := a) (rm8 l Z a0 hw a r_9 qq (7 : Int32) f_9 7 8 h_9 (by decide) (by decide) rfl (fun i j h1 h2 => by rw [hf_9 i (by omega), hf_9 j h2]; exact hso i j h1 (by omega)) P_9 A_9) e_9 P_9.1 pd_4 rfl rfl 0 (Nat.le_of_eq rfl) (by decide) (by decide) (by decide) (by decide) at_393 396 rfl ?_
    rintro T h_10 _ L_10 X e_10 ⟨t_10, ht_10, rfl, rfl, hh_10, p_10, q_10⟩
    have N0 : Fr n0 _ := Fr.app N0 (Fr.nil n0)
    refine o_iload C X at_396 398 rfl rfl ?_
    refine o_icmpN C X at_398 401 rfl (teq (own_sum (VS s0 s1 s2 s3 s4 s5 s6) qq 7 t_10 ht_10 (fun i hi => by rw [← hf_9 i (by omega)]; exact p_10 i hi) (fun i h1 h2 => by rw [← hf_9 i h2]; exact q_10 i h1 h2) : (Int32.ofNat t_10) = ((((((((0 : Int32) + (FB (FCL s0) qq)) + (FB (FCL s1) qq)) + (FB (FCL s2) qq)) + (FB (FCL s3) qq)) + (FB (FCL s4) qq)) + (FB (FCL s5) qq)) + (FB (FCL s6) qq)))).2 ?_
    refine o_iconst C X at_401 402 rfl (1 : Int32) (by decide) ?_
    refine o_goto C X at_402 406 (by decide) (by decide) ?_
    exact o_retN C X hret (by simp) hlk at_406 ⟨congrArg some (congrArg _ (rfl)), N0⟩ (by decide) (by decide)
theorem pn_0 : plainFor x = true := by first | exact plainFor_of_name (by first | (simp [plainName, overriddenIn]; done) | decide +kernel) | decide +kernel
theorem ef_0 (m : MethodId) (x0 : Int32) (x1 : Int32) (x2 : Int32) (x3 : Int32) : entryFrame m #[(.int x0), (.int x1), (.int x2), (.int x3)] maxLocals = (mkF m 0 #[.val (.int x0), .val (.int x1), .val (.int x2), .val (.int x3), .unset, .unset, .unset, .unset, .unset, .unset, .unset, .unset, .unset, .unset, .unset, .unset, .unset, .unset, .unset, .unset, .unset, .unset, .unset, .unset, .unset, .unset, .unset, .unset, .unset] []) := by first | (simp [entryFrame, mkF, argsToLocals, Value.category, maxLocals]; done) | rfl
set_option maxRecDepth 65536 in
set_option maxHeartbeats 40000000 in
theorem rm0 (l : Launch) (Z : State) (a0 : Array Value) (hw : ∀ d ∈ tables_1, d.before a0 Z = true) (x0 : Int32) (x1 : Int32) (x2 : Int32) (x3 : Int32) (h0 : Heap) (n0 : Nat) (Z0 : n0 ≤ h0.size) : Con l Z x code maxLocals ret room_1 16 128 tables_1 #[(.int x0), (.int x1), (.int x2), (.int x3)] h0 (fun v _ L => v = some (.int 1) ∧ Fr n0 L) := by
  refine Con.of pn_0 ?_
  intro p e s m below meth c T C hZ hml hown hret hnm hlk X e0
  have N0 := Fr.nil n0
  rw [ef_0]
  refine o_iloadN C X at_0 1 rfl rfl ?_
  refine o_bipush C X at_1 3 rfl (7 : Int32) (by decide) ?_
  refine o_iand C X at_3 4 rfl ?_
  refine o_istore C X at_4 6 rfl #[.val (.int x0), .val (.int x1), .val (.int x2), .val (.int x3), .val (.int (x3 &&& (7 : Int32))), .unset, .unset, .unset, .unset, .unset, .unset, .unset, .unset, .unset, .unset, .unset, .unset, .unset, .unset, .unset, .unset, .unset, .unset, .unset, .unset, .unset, .unset, .unset, .unset] rfl ?_
  refine o_iloadN C X at_6 7 rfl rfl ?_
  refine o_i2l C X at_7 8 rfl ?_
  refine o_lstore C X at_8 10 rfl #[.val (.int x0), .val (.int x1), .val (.int x2), .val (.int x3), .val (.int (x3 &&& (7 : Int32))), .val (.long (x0.toInt64)), .second, .unset, .unset, .unset, .unset, .unset, .unset, .unset, .unset, .unset, .unset, .unset, .unset, .unset, .unset, .unset, .unset, .unset, .unset, .unset, .unset, .unset, .unset] rfl ?_
  refine o_lload C X at_10 12 rfl rfl ?_
  refine o_iloadN C X at_12 13 rfl rfl ?_
  refine o_bipush C X at_13 15 rfl (7 : Int32) (by decide) ?_
  refine o_iand C X at_15 16 rfl ?_
  refine o_i2l C X at_16 17 rfl ?_
  refine o_ladd C X at_17 18 rfl ?_
  refine o_lstore C X at_18 20 rfl #[.val (.int x0), .val (.int x1), .val (.int x2), .val (.int x3), .val (.int (x3 &&& (7 : Int32))), .val (.long (x0.toInt64)), .second, .val (.long ((x0.toInt64) + ((x1 &&& (7 : Int32)).toInt64))), .second, .unset, .unset, .unset, .unset, .unset, .unset, .unset, .unset, .unset, .unset, .unset, .unset, .unset, .unset, .unset, .unset, .unset, .unset, .unset, .unset] rfl ?_
  refine o_lload C X at_20 22 rfl rfl ?_
  refine o_iloadN C X at_22 23 rfl rfl ?_
  refine o_iconst C X at_23 24 rfl (3 : Int32) (by decide) ?_
  refine o_iushr C X at_24 25 rfl ?_
  refine o_bipush C X at_25 27 rfl (7 : Int32) (by decide) ?_
  refine o_iand C X at_27 28 rfl ?_
  refine o_i2l C X at_28 29 rfl ?_
  refine o_ladd C X at_29 30 rfl ?_
  refine o_lstore C X at_30 32 rfl #[.val (.int x0), .val (.int x1), .val (.int x2), .val (.int x3), .val (.int (x3 &&& (7 : Int32))), .val (.long (x0.toInt64)), .second, .val (.long ((x0.toInt64) + ((x1 &&& (7 : Int32)).toInt64))), .second, .val (.long (((x0.toInt64) + ((x1 &&& (7 : Int32)).toInt64)) + (((ushr x1 (3 : Int32)) &&& (7 : Int32)).toInt64))), .second, .unset, .unset, .unset, .unset, .unset, .unset, .unset, .unset, .unset, .unset, .unset, .unset, .unset, .unset, .unset, .unset, .unset, .unset] rfl ?_
  refine o_lload C X at_32 34 rfl rfl ?_
  refine o_iloadN C X at_34 35 rfl rfl ?_
  refine o_bipush C X at_35 37 rfl (6 : Int32) (by decide) ?_
  refine o_iushr C X at_37 38 rfl ?_
  refine o_bipush C X at_38 40 rfl (7 : Int32) (by decide) ?_
  refine o_iand C X at_40 41 rfl ?_
  refine o_i2l C X at_41 42 rfl ?_
  refine o_ladd C X at_42 43 rfl ?_
  refine o_lstore C X at_43 45 rfl #[.val (.int x0), .val (.int x1), .val (.int x2), .val (.int x3), .val (.int (x3 &&& (7 : Int32))), .val (.long (x0.toInt64)), .second, .val (.long ((x0.toInt64) + ((x1 &&& (7 : Int32)).toInt64))), .second, .val (.long (((x0.toInt64) + ((x1 &&& (7 : Int32)).toInt64)) + (((ushr x1 (3 : Int32)) &&& (7 : Int32)).toInt64))), .second, .val (.long ((((x0.toInt64) + ((x1 &&& (7 : Int32)).toInt64)) + (((ushr x1 (3 : Int32)) &&& (7 : Int32)).toInt64)) + (((ushr x1 (6 : Int32)) &&& (7 : Int32)).toInt64))), .second, .unset, .unset, .unset, .unset, .unset, .unset, .unset, .unset, .unset, .unset, .unset, .unset, .unset, .unset, .unset, .unset] rfl ?_
  refine o_lload C X at_45 47 rfl rfl ?_
  refine o_iloadN C X at_47 48 rfl rfl ?_
  refine o_bipush C X at_48 50 rfl (9 : Int32) (by decide) ?_
  refine o_iushr C X at_50 51 rfl ?_
  refine o_bipush C X at_51 53 rfl (7 : Int32) (by decide) ?_
  refine o_iand C X at_53 54 rfl ?_
  refine o_i2l C X at_54 55 rfl ?_
  refine o_ladd C X at_55 56 rfl ?_
  refine o_lstore C X at_56 58 rfl #[.val (.int x0), .val (.int x1), .val (.int x2), .val (.int x3), .val (.int (x3 &&& (7 : Int32))), .val (.long (x0.toInt64)), .second, .val (.long ((x0.toInt64) + ((x1 &&& (7 : Int32)).toInt64))), .second, .val (.long (((x0.toInt64) + ((x1 &&& (7 : Int32)).toInt64)) + (((ushr x1 (3 : Int32)) &&& (7 : Int32)).toInt64))), .second, .val (.long ((((x0.toInt64) + ((x1 &&& (7 : Int32)).toInt64)) + (((ushr x1 (3 : Int32)) &&& (7 : Int32)).toInt64)) + (((ushr x1 (6 : Int32)) &&& (7 : Int32)).toInt64))), .second, .val (.long (((((x0.toInt64) + ((x1 &&& (7 : Int32)).toInt64)) + (((ushr x1 (3 : Int32)) &&& (7 : Int32)).toInt64)) + (((ushr x1 (6 : Int32)) &&& (7 : Int32)).toInt64)) + (((ushr x1 (9 : Int32)) &&& (7 : Int32)).toInt64))), .second, .unset, .unset, .unset, .unset, .unset, .unset, .unset, .unset, .unset, .unset, .unset, .unset, .unset, .unset] rfl ?_
  refine o_lload C X at_58 60 rfl rfl ?_
  refine o_iloadN C X at_60 61 rfl rfl ?_
  refine o_bipush C X at_61 63 rfl (12 : Int32) (by decide) ?_
  refine o_iushr C X at_63 64 rfl ?_
  refine o_bipush C X at_64 66 rfl (7 : Int32) (by decide) ?_
  refine o_iand C X at_66 67 rfl ?_
  refine o_i2l C X at_67 68 rfl ?_
  refine o_ladd C X at_68 69 rfl ?_
  refine o_lstore C X at_69 71 rfl #[.val (.int x0), .val (.int x1), .val (.int x2), .val (.int x3), .val (.int (x3 &&& (7 : Int32))), .val (.long (x0.toInt64)), .second, .val (.long ((x0.toInt64) + ((x1 &&& (7 : Int32)).toInt64))), .second, .val (.long (((x0.toInt64) + ((x1 &&& (7 : Int32)).toInt64)) + (((ushr x1 (3 : Int32)) &&& (7 : Int32)).toInt64))), .second, .val (.long ((((x0.toInt64) + ((x1 &&& (7 : Int32)).toInt64)) + (((ushr x1 (3 : Int32)) &&& (7 : Int32)).toInt64)) + (((ushr x1 (6 : Int32)) &&& (7 : Int32)).toInt64))), .second, .val (.long (((((x0.toInt64) + ((x1 &&& (7 : Int32)).toInt64)) + (((ushr x1 (3 : Int32)) &&& (7 : Int32)).toInt64)) + (((ushr x1 (6 : Int32)) &&& (7 : Int32)).toInt64)) + (((ushr x1 (9 : Int32)) &&& (7 : Int32)).toInt64))), .second, .val (.long ((((((x0.toInt64) + ((x1 &&& (7 : Int32)).toInt64)) + (((ushr x1 (3 : Int32)) &&& (7 : Int32)).toInt64)) + (((ushr x1 (6 : Int32)) &&& (7 : Int32)).toInt64)) + (((ushr x1 (9 : Int32)) &&& (7 : Int32)).toInt64)) + (((ushr x1 (12 : Int32)) &&& (7 : Int32)).toInt64))), .second, .unset, .unset, .unset, .unset, .unset, .unset, .unset, .unset, .unset, .unset, .unset, .unset] rfl ?_
  refine o_lload C X at_71 73 rfl rfl ?_
  refine o_iloadN C X at_73 74 rfl rfl ?_
  refine o_bipush C X at_74 76 rfl (15 : Int32) (by decide) ?_
  refine o_iushr C X at_76 77 rfl ?_
  refine o_bipush C X at_77 79 rfl (7 : Int32) (by decide) ?_
  refine o_iand C X at_79 80 rfl ?_
  refine o_i2l C X at_80 81 rfl ?_
  refine o_ladd C X at_81 82 rfl ?_
  refine o_lstore C X at_82 84 rfl #[.val (.int x0), .val (.int x1), .val (.int x2), .val (.int x3), .val (.int (x3 &&& (7 : Int32))), .val (.long (x0.toInt64)), .second, .val (.long ((x0.toInt64) + ((x1 &&& (7 : Int32)).toInt64))), .second, .val (.long (((x0.toInt64) + ((x1 &&& (7 : Int32)).toInt64)) + (((ushr x1 (3 : Int32)) &&& (7 : Int32)).toInt64))), .second, .val (.long ((((x0.toInt64) + ((x1 &&& (7 : Int32)).toInt64)) + (((ushr x1 (3 : Int32)) &&& (7 : Int32)).toInt64)) + (((ushr x1 (6 : Int32)) &&& (7 : Int32)).toInt64))), .second, .val (.long (((((x0.toInt64) + ((x1 &&& (7 : Int32)).toInt64)) + (((ushr x1 (3 : Int32)) &&& (7 : Int32)).toInt64)) + (((ushr x1 (6 : Int32)) &&& (7 : Int32)).toInt64)) + (((ushr x1 (9 : Int32)) &&& (7 : Int32)).toInt64))), .second, .val (.long ((((((x0.toInt64) + ((x1 &&& (7 : Int32)).toInt64)) + (((ushr x1 (3 : Int32)) &&& (7 : Int32)).toInt64)) + (((ushr x1 (6 : Int32)) &&& (7 : Int32)).toInt64)) + (((ushr x1 (9 : Int32)) &&& (7 : Int32)).toInt64)) + (((ushr x1 (12 : Int32)) &&& (7 : Int32)).toInt64))), .second, .val (.long (((((((x0.toInt64) + ((x1 &&& (7 : Int32)).toInt64)) + (((ushr x1 (3 : Int32)) &&& (7 : Int32)).toInt64)) + (((ushr x1 (6 : Int32)) &&& (7 : Int32)).toInt64)) + (((ushr x1 (9 : Int32)) &&& (7 : Int32)).toInt64)) + (((ushr x1 (12 : Int32)) &&& (7 : Int32)).toInt64)) + (((ushr x1 (15 : Int32)) &&& (7 : Int32)).toInt64))), .second, .unset, .unset, .unset, .unset, .unset, .unset, .unset, .unset, .unset, .unset] rfl ?_
  refine o_lload C X at_84 86 rfl rfl ?_
  generalize hs0 : (x0.toInt64) = s0
  generalize hs1 : (s0 + ((x1 &&& (7 : Int32)).toInt64)) = s1
  generalize hs2 : (s1 + (((ushr x1 (3 : Int32)) &&& (7 : Int32)).toInt64)) = s2
  generalize hs3 : (s2 + (((ushr x1 (6 : Int32)) &&& (7 : Int32)).toInt64)) = s3
  generalize hs4 : (s3 + (((ushr x1 (9 : Int32)) &&& (7 : Int32)).toInt64)) = s4
  generalize hs5 : (s4 + (((ushr x1 (12 : Int32)) &&& (7 : Int32)).toInt64)) = s5
  generalize hs6 : (s5 + (((ushr x1 (15 : Int32)) &&& (7 : Int32)).toInt64)) = s6
  refine o_callP C X hZ (by rw [hml]; rfl) (own := "org/triplewright/engine/IntListLowerBoundPinLaw") (y := (⟨"org/triplewright/engine/IntListLowerBoundPinLaw", "clamp", "(J)I"⟩ : MethodName)) (rf := 1) (rl := 17) hown (hw _ (List.mem_of_getElem? (i := 0) rfl)) (hw _ (List.mem_of_getElem? (i := 1) rfl)) (hw _ (List.mem_of_getElem? (i := 2) rfl)) (hw _ (List.mem_of_getElem? (i := 3) rfl)) (by decide) (asL := [(.long s0)]) (rm1 l Z a0 hw s0 h0) e0 pd_5 rfl rfl 0 (Nat.le_of_eq rfl) (by decide) (by decide) (by decide) (by decide) at_86 89 rfl ?_
  intro T X e0
  refine o_istore C X at_89 91 rfl #[.val (.int x0), .val (.int x1), .val (.int x2), .val (.int x3), .val (.int (x3 &&& (7 : Int32))), .val (.long s0), .second, .val (.long s1), .second, .val (.long s2), .second, .val (.long s3), .second, .val (.long s4), .second, .val (.long s5), .second, .val (.long s6), .second, .val (.int (FCL s0)), .unset, .unset, .unset, .unset, .unset, .unset, .unset, .unset, .unset] rfl ?_
  refine o_lload C X at_91 93 rfl rfl ?_
  refine o_callP C X hZ (by rw [hml]; rfl) (own := "org/triplewright/engine/IntListLowerBoundPinLaw") (y := (⟨"org/triplewright/engine/IntListLowerBoundPinLaw", "clamp", "(J)I"⟩ : MethodName)) (rf := 1) (rl := 17) hown (hw _ (List.mem_of_getElem? (i := 0) rfl)) (hw _ (List.mem_of_getElem? (i := 1) rfl)) (hw _ (List.mem_of_getElem? (i := 2) rfl)) (hw _ (List.mem_of_getElem? (i := 3) rfl)) (by decide) (asL := [(.long s1)]) (rm1 l Z a0 hw s1 h0) e0 pd_5 rfl rfl 0 (Nat.le_of_eq rfl) (by decide) (by decide) (by decide) (by decide) at_93 96 rfl ?_
  intro T X e0
  refine o_istore C X at_96 98 rfl #[.val (.int x0), .val (.int x1), .val (.int x2), .val (.int x3), .val (.int (x3 &&& (7 : Int32))), .val (.long s0), .second, .val (.long s1), .second, .val (.long s2), .second, .val (.long s3), .second, .val (.long s4), .second, .val (.long s5), .second, .val (.long s6), .second, .val (.int (FCL s0)), .val (.int (FCL s1)), .unset, .unset, .unset, .unset, .unset, .unset, .unset, .unset] rfl ?_
  refine o_lload C X at_98 100 rfl rfl ?_
  refine o_callP C X hZ (by rw [hml]; rfl) (own := "org/triplewright/engine/IntListLowerBoundPinLaw") (y := (⟨"org/triplewright/engine/IntListLowerBoundPinLaw", "clamp", "(J)I"⟩ : MethodName)) (rf := 1) (rl := 17) hown (hw _ (List.mem_of_getElem? (i := 0) rfl)) (hw _ (List.mem_of_getElem? (i := 1) rfl)) (hw _ (List.mem_of_getElem? (i := 2) rfl)) (hw _ (List.mem_of_getElem? (i := 3) rfl)) (by decide) (asL := [(.long s2)]) (rm1 l Z a0 hw s2 h0) e0 pd_5 rfl rfl 0 (Nat.le_of_eq rfl) (by decide) (by decide) (by decide) (by decide) at_100 103 rfl ?_
  intro T X e0
  refine o_istore C X at_103 105 rfl #[.val (.int x0), .val (.int x1), .val (.int x2), .val (.int x3), .val (.int (x3 &&& (7 : Int32))), .val (.long s0), .second, .val (.long s1), .second, .val (.long s2), .second, .val (.long s3), .second, .val (.long s4), .second, .val (.long s5), .second, .val (.long s6), .second, .val (.int (FCL s0)), .val (.int (FCL s1)), .val (.int (FCL s2)), .unset, .unset, .unset, .unset, .unset, .unset, .unset] rfl ?_
  refine o_lload C X at_105 107 rfl rfl ?_
  refine o_callP C X hZ (by rw [hml]; rfl) (own := "org/triplewright/engine/IntListLowerBoundPinLaw") (y := (⟨"org/triplewright/engine/IntListLowerBoundPinLaw", "clamp", "(J)I"⟩ : MethodName)) (rf := 1) (rl := 17) hown (hw _ (List.mem_of_getElem? (i := 0) rfl)) (hw _ (List.mem_of_getElem? (i := 1) rfl)) (hw _ (List.mem_of_getElem? (i := 2) rfl)) (hw _ (List.mem_of_getElem? (i := 3) rfl)) (by decide) (asL := [(.long s3)]) (rm1 l Z a0 hw s3 h0) e0 pd_5 rfl rfl 0 (Nat.le_of_eq rfl) (by decide) (by decide) (by decide) (by decide) at_107 110 rfl ?_
  intro T X e0
  refine o_istore C X at_110 112 rfl #[.val (.int x0), .val (.int x1), .val (.int x2), .val (.int x3), .val (.int (x3 &&& (7 : Int32))), .val (.long s0), .second, .val (.long s1), .second, .val (.long s2), .second, .val (.long s3), .second, .val (.long s4), .second, .val (.long s5), .second, .val (.long s6), .second, .val (.int (FCL s0)), .val (.int (FCL s1)), .val (.int (FCL s2)), .val (.int (FCL s3)), .unset, .unset, .unset, .unset, .unset, .unset] rfl ?_
  refine o_lload C X at_112 114 rfl rfl ?_
  refine o_callP C X hZ (by rw [hml]; rfl) (own := "org/triplewright/engine/IntListLowerBoundPinLaw") (y := (⟨"org/triplewright/engine/IntListLowerBoundPinLaw", "clamp", "(J)I"⟩ : MethodName)) (rf := 1) (rl := 17) hown (hw _ (List.mem_of_getElem? (i := 0) rfl)) (hw _ (List.mem_of_getElem? (i := 1) rfl)) (hw _ (List.mem_of_getElem? (i := 2) rfl)) (hw _ (List.mem_of_getElem? (i := 3) rfl)) (by decide) (asL := [(.long s4)]) (rm1 l Z a0 hw s4 h0) e0 pd_5 rfl rfl 0 (Nat.le_of_eq rfl) (by decide) (by decide) (by decide) (by decide) at_114 117 rfl ?_
  intro T X e0
  refine o_istore C X at_117 119 rfl #[.val (.int x0), .val (.int x1), .val (.int x2), .val (.int x3), .val (.int (x3 &&& (7 : Int32))), .val (.long s0), .second, .val (.long s1), .second, .val (.long s2), .second, .val (.long s3), .second, .val (.long s4), .second, .val (.long s5), .second, .val (.long s6), .second, .val (.int (FCL s0)), .val (.int (FCL s1)), .val (.int (FCL s2)), .val (.int (FCL s3)), .val (.int (FCL s4)), .unset, .unset, .unset, .unset, .unset] rfl ?_
  refine o_lload C X at_119 121 rfl rfl ?_
  refine o_callP C X hZ (by rw [hml]; rfl) (own := "org/triplewright/engine/IntListLowerBoundPinLaw") (y := (⟨"org/triplewright/engine/IntListLowerBoundPinLaw", "clamp", "(J)I"⟩ : MethodName)) (rf := 1) (rl := 17) hown (hw _ (List.mem_of_getElem? (i := 0) rfl)) (hw _ (List.mem_of_getElem? (i := 1) rfl)) (hw _ (List.mem_of_getElem? (i := 2) rfl)) (hw _ (List.mem_of_getElem? (i := 3) rfl)) (by decide) (asL := [(.long s5)]) (rm1 l Z a0 hw s5 h0) e0 pd_5 rfl rfl 0 (Nat.le_of_eq rfl) (by decide) (by decide) (by decide) (by decide) at_121 124 rfl ?_
  intro T X e0
  refine o_istore C X at_124 126 rfl #[.val (.int x0), .val (.int x1), .val (.int x2), .val (.int x3), .val (.int (x3 &&& (7 : Int32))), .val (.long s0), .second, .val (.long s1), .second, .val (.long s2), .second, .val (.long s3), .second, .val (.long s4), .second, .val (.long s5), .second, .val (.long s6), .second, .val (.int (FCL s0)), .val (.int (FCL s1)), .val (.int (FCL s2)), .val (.int (FCL s3)), .val (.int (FCL s4)), .val (.int (FCL s5)), .unset, .unset, .unset, .unset] rfl ?_
  refine o_lload C X at_126 128 rfl rfl ?_
  refine o_callP C X hZ (by rw [hml]; rfl) (own := "org/triplewright/engine/IntListLowerBoundPinLaw") (y := (⟨"org/triplewright/engine/IntListLowerBoundPinLaw", "clamp", "(J)I"⟩ : MethodName)) (rf := 1) (rl := 17) hown (hw _ (List.mem_of_getElem? (i := 0) rfl)) (hw _ (List.mem_of_getElem? (i := 1) rfl)) (hw _ (List.mem_of_getElem? (i := 2) rfl)) (hw _ (List.mem_of_getElem? (i := 3) rfl)) (by decide) (asL := [(.long s6)]) (rm1 l Z a0 hw s6 h0) e0 pd_5 rfl rfl 0 (Nat.le_of_eq rfl) (by decide) (by decide) (by decide) (by decide) at_128 131 rfl ?_
  intro T X e0
  refine o_istore C X at_131 133 rfl #[.val (.int x0), .val (.int x1), .val (.int x2), .val (.int x3), .val (.int (x3 &&& (7 : Int32))), .val (.long s0), .second, .val (.long s1), .second, .val (.long s2), .second, .val (.long s3), .second, .val (.long s4), .second, .val (.long s5), .second, .val (.long s6), .second, .val (.int (FCL s0)), .val (.int (FCL s1)), .val (.int (FCL s2)), .val (.int (FCL s3)), .val (.int (FCL s4)), .val (.int (FCL s5)), .val (.int (FCL s6)), .unset, .unset, .unset] rfl ?_
  refine o_iloadN C X at_133 134 rfl rfl ?_
  refine o_iconst C X at_134 135 rfl (3 : Int32) (by decide) ?_
  refine o_iushr C X at_135 136 rfl ?_
  refine o_iconst C X at_136 137 rfl (1 : Int32) (by decide) ?_
  refine o_iand C X at_137 138 rfl ?_
  have hup : Up s0 s1 s2 s3 s4 s5 s6 := by
    have r0 := rng32 x0
    have e0 := c_i2l x0
    rw [hs0] at e0
    have t0 := own_step (x := s0) (z := x1) (k := 0) (by omega) (by omega) (by decide) (by decide)
    rw [hs1] at t0
    have t1 := own_step (x := s1) (z := (ushr x1 (3 : Int32))) (k := 7) (by omega) (by omega) (by decide) (by decide)
    rw [hs2] at t1
    have t2 := own_step (x := s2) (z := (ushr x1 (6 : Int32))) (k := 14) (by omega) (by omega) (by decide) (by decide)
    rw [hs3] at t2
    have t3 := own_step (x := s3) (z := (ushr x1 (9 : Int32))) (k := 21) (by omega) (by omega) (by decide) (by decide)
    rw [hs4] at t3
    have t4 := own_step (x := s4) (z := (ushr x1 (12 : Int32))) (k := 28) (by omega) (by omega) (by decide) (by decide)
    rw [hs5] at t4
    have t5 := own_step (x := s5) (z := (ushr x1 (15 : Int32))) (k := 35) (by omega) (by omega) (by decide) (by decide)
    rw [hs6] at t5
    exact ⟨t0.1, t1.1, t2.1, t3.1, t4.1, t5.1⟩
  by_cases gq : ((ushr x3 (3 : Int32)) &&& (1 : Int32)) = (0 : Int32)
  · skip
    refine o_ifY C X at_138 147 (by decide) (by decide) ((if0 _ _).trans (teq gq).1) ?_
    refine o_lload C X at_147 149 rfl rfl ?_
    refine o_iloadN C X at_149 150 rfl rfl ?_
    refine o_bipush C X at_150 152 rfl (64 : Int32) (by decide) ?_
    refine o_irem C X at_152 153 rfl (by decide) ?_
    refine o_i2l C X at_153 154 rfl ?_
    refine o_ladd C X at_154 155 rfl ?_
    refine o_callP C X hZ (by rw [hml]; rfl) (own := "org/triplewright/engine/IntListLowerBoundPinLaw") (y := (⟨"org/triplewright/engine/IntListLowerBoundPinLaw", "clamp", "(J)I"⟩ : MethodName)) (rf := 1) (rl := 17) hown (hw _ (List.mem_of_getElem? (i := 0) rfl)) (hw _ (List.mem_of_getElem? (i := 1) rfl)) (hw _ (List.mem_of_getElem? (i := 2) rfl)) (hw _ (List.mem_of_getElem? (i := 3) rfl)) (by decide) (asL := [(.long (s0 + ((x2 % (64 : Int32)).toInt64)))]) (rm1 l Z a0 hw (s0 + ((x2 % (64 : Int32)).toInt64)) h0) e0 pd_5 rfl rfl 0 (Nat.le_of_eq rfl) (by decide) (by decide) (by decide) (by decide) at_155 158 rfl ?_
    intro T X e0
    refine o_istore C X at_158 160 rfl #[.val (.int x0), .val (.int x1), .val (.int x2), .val (.int x3), .val (.int (x3 &&& (7 : Int32))), .val (.long s0), .second, .val (.long s1), .second, .val (.long s2), .second, .val (.long s3), .second, .val (.long s4), .second, .val (.long s5), .second, .val (.long s6), .second, .val (.int (FCL s0)), .val (.int (FCL s1)), .val (.int (FCL s2)), .val (.int (FCL s3)), .val (.int (FCL s4)), .val (.int (FCL s5)), .val (.int (FCL s6)), .val (.int (FCL (s0 + ((x2 % (64 : Int32)).toInt64)))), .unset, .unset] rfl ?_
    exact rest0 hw x0 x1 x2 x3 s0 s1 s2 s3 s4 s5 s6 (FCL (s0 + ((x2 % (64 : Int32)).toInt64))) n0 Z0 hup C hZ hml hown hret hlk N0 X e0
  · skip
    refine o_ifN C X at_138 141 rfl ((if0 _ _).trans (feq gq).1) ?_
    refine o_iloadN C X at_141 142 rfl rfl ?_
    refine o_istore C X at_142 144 rfl #[.val (.int x0), .val (.int x1), .val (.int x2), .val (.int x3), .val (.int (x3 &&& (7 : Int32))), .val (.long s0), .second, .val (.long s1), .second, .val (.long s2), .second, .val (.long s3), .second, .val (.long s4), .second, .val (.long s5), .second, .val (.long s6), .second, .val (.int (FCL s0)), .val (.int (FCL s1)), .val (.int (FCL s2)), .val (.int (FCL s3)), .val (.int (FCL s4)), .val (.int (FCL s5)), .val (.int (FCL s6)), .val (.int x2), .unset, .unset] rfl ?_
    refine o_goto C X at_144 160 (by decide) (by decide) ?_
    exact rest0 hw x0 x1 x2 x3 s0 s1 s2 s3 s4 s5 s6 x2 n0 Z0 hup C hZ hml hown hret hlk N0 X e0
set_option maxRecDepth 65536 in
set_option maxHeartbeats 40000000 in
theorem comes_1 {Post : Tables → Env → Array Value → State → Outcome → State → Prop} (hpost : ∀ tb e args s v u, (limb_1_1.after args s (.returned v) u = true ∧ limb_1_2.after args s (.returned v) u = true ∧ True) → FrameEnd s (.returned v) u (Jvm.fieldLocs frame_1_writes args s ++ Jvm.arrayLocs frame_1_arrays args s ++ Jvm.staticLocs frame_1_statics s) 16 128 → Post tb e args s (.returned v) u) :
    ArmFor flags0 classFile x code maxLocals ret World_1 tables_1 room_1 Calls_1 rest_1 Pre_1 Post := by
  intro l hfl _ _ p e ha hc hk s m args below hf hA hF happ hP
  obtain ⟨hcalls, hrest, hpre⟩ := hP
  obtain ⟨-, -, -, hnamed, -, -, -, hat⟩ := (Spec.applies_iff hf).mp happ
  obtain ⟨hg, hn⟩ := and_e (Cond.before_iff.mp (show (Jvm.Cond.and given_1 narrow_1).before args s = true from hpre))
  obtain ⟨g0, g1⟩ := and_e hg
  obtain ⟨w0, w1, w2, w3, rfl⟩ : ∃ w0 w1 w2 w3 : Value, args = #[w0, w1, w2, w3] := by
    have hs : args.size = 4 := by simpa [Cond.value, given_1] using g0
    obtain ⟨L⟩ := args
    match L, hs with
    | [w0, w1, w2, w3], _ => exact ⟨w0, w1, w2, w3, rfl⟩
  have hw := fun d (hd : d ∈ tables_1) => atoms_spec (ws := Jvm.Cond.code x code maxLocals ret :: tables_1) hat d (List.mem_cons_of_mem _ hd)
  have hfit : Fit s := fun {y c} hc i hi => by
    obtain ⟨ha, rfl⟩ := Array.getElem?_eq_some_iff.mp hc
    have q := List.all_eq_true.mp ((Array.all_eq_true_iff_forall_mem.mp hF) _ (Array.getElem_mem ha)) i (List.mem_range.mpr hi)
    simpa [Array.getElem?_eq_getElem hi] using q
  obtain ⟨f0, g1⟩ := and_e g1
  obtain ⟨i0, e0⟩ := is_v f0
  obtain rfl : w0 = (.int i0) := Option.some.inj e0
  obtain ⟨f1, g1⟩ := and_e g1
  obtain ⟨i1, e1⟩ := is_v f1
  obtain rfl : w1 = (.int i1) := Option.some.inj e1
  obtain ⟨f2, g1⟩ := and_e g1
  obtain ⟨i2, e2⟩ := is_v f2
  obtain rfl : w2 = (.int i2) := Option.some.inj e2
  have f3 := g1
  obtain ⟨i3, e3⟩ := is_v f3
  obtain rfl : w3 = (.int i3) := Option.some.inj e3
  obtain ⟨n, o, h1, h2, h3, _, L, rfl, ⟨rfl, N⟩, hq⟩ := rm0 l s _ hw i0 i1 i2 i3 s.heap s.heap.size (Nat.le_refl _) p e ha hc hk s m _ below hf ((Spec.applies_iff_loose hf).mp happ).1 ⟨rfl, State.Warmed39.refl s, rfl⟩ trivial
  exact ⟨n, _, h1, h2, h3, hpost _ _ _ _ _ _ ⟨Cond.after_iff.mpr rfl, Cond.after_iff.mpr (eq_i res_at (Term.int_eval (1)) rfl), trivial⟩ ⟨hq.1, hq.2.1, (hq.2.2.sift fun y hy => Or.inr (N y hy)).mono (by decide) (by decide)⟩⟩
theorem main_1_1 : Claimed_1_1 := comes_1 fun _ _ _ _ _ _ h hF => ⟨h.1, hF⟩
theorem main_1_2 : Claimed_1_2 := comes_1 fun _ _ _ _ _ _ h hF => ⟨h.2.1, hF⟩
end Jvm.Pilot.@@N@@
namespace Jvm.Pilot.@@N@@
open Jvm Jvm.ClassFile Sem Op Lib Jvm.Free Jvm.Stand Jvm.Pilot.@@N@@.Jvm.D
/-! MADE BY PROGRAM (witnessworld.py) out of the Statement's table words and the real class files: 12 classes; the members and pool entries that the words name. The judged class is class 1, her method 3. -/
namespace start1
open Jvm.ClassFile
def u (s : String) : CpInfo := .utf8 (stringToUtf16 s)
/-- a pool by its gaps: so many unusable entries, then the entry; so many at the end -/
def gap : Nat → List CpInfo → List CpInfo
  | 0, r => r
  | n + 1, r => .unusable :: gap n r
def poolList (es : List (Nat × CpInfo)) (last : Nat) : List CpInfo := es.foldr (fun e r => gap e.1 (e.2 :: r)) (gap last [])
def pool (es : List (Nat × CpInfo)) (last : Nat) : Array CpInfo := ⟨poolList es last⟩
def fileOf (pool : Array CpInfo) (this : Nat) (attrs : Array Attribute := #[]) (ms : Array MethodInfo := #[]) (fl : Nat := 33) (sup : Nat := 0) (ifs : Array Nat := #[]) (fds : Array FieldInfo := #[]) : ClassFile where
  minorVersion := 0
  majorVersion := 65
  constantPool := pool
  accessFlags := fl
  thisClass := this
  superClass := sup
  interfaces := ifs
  fields := fds
  methods := ms
  attributes := attrs
def plain (name : String) (sup : Option ClassId) : Class where
  name := name
  kind := .ordinary
  loader := none
  accessFlags := 33
  super := sup
  interfaces := #[]
  cf := none
  fields := #[]
  methods := #[]
  instanceTypes := #[]
  staticTypes := #[]
  resolved := #[]
  callSites := []
  init := .initialized
  statics := none
  mirror := none

def pool0 : Array CpInfo := pool [(5, u "<init>"), (0, u "()V"), (1, .class_ 10), (1, u "java/lang/Object")] 113

def k0c0 : Code := { maxStack := 0, maxLocals := 1, code := object_method_1_code, exceptionTable := #[], attributes := #[] }
def k0m0 : Method := { name := "<init>", desc := "()V", sig := { parameters := [], returnType := none }, accessFlags := 1, code := some k0c0 }
/-- java/lang/Object -/
def k0 : Class := { plain "java/lang/Object" none with
  accessFlags := 33
  interfaces := #[]
  cf := some (fileOf pool0 8 #[] #[{ accessFlags := 1, nameIndex := 5, descriptorIndex := 6, attributes := #[] }] 33 0 #[] #[])
  fields := #[]
  methods := #[k0m0]
  instanceTypes := #[]
  staticTypes := #[]
  resolved := Array.replicate 124 none
  statics := none }

def pool1 : Array CpInfo := pool [(2, .class_ 4), (0, .nameAndType 5 6), (0, u "java/lang/Object"), (0, u "<init>"), (0, u "()V"), (2, .long 18446744071562067968), (1, .long 2147483647), (1, .methodref 14 15), (0, .class_ 16), (0, .nameAndType 17 18), (0, u "java/lang/Math"), (0, u "min"), (0, u "(JJ)J"), (0, .methodref 14 20), (0, .nameAndType 21 18), (0, u "max"), (0, .methodref 23 24), (0, .class_ 25), (0, .nameAndType 26 27), (0, u "org/triplewright/engine/IntListLowerBoundPinLaw"), (0, u "clamp"), (0, u "(J)I"), (0, .class_ 29), (0, u "org/triplewright/engine/IntList"), (0, .methodref 28 3), (0, .methodref 28 32), (0, .nameAndType 33 34), (0, u "add"), (0, u "(I)V"), (0, .methodref 23 36), (0, .nameAndType 37 38), (0, u "below"), (0, u "(II)I"), (0, .methodref 28 40), (0, .nameAndType 41 42), (0, u "lowerBound"), (0, u "(I)I"), (3, u "law"), (0, u "(IIII)Z")] 2

def k1m0 : Method := { name := "<init>", desc := "()V", sig := { parameters := [], returnType := none }, accessFlags := 1, code := none }
def k1c1 : Code := { maxStack := 6, maxLocals := 2, code := method_2_code, exceptionTable := #[], attributes := #[] }
def k1m1 : Method := { name := "clamp", desc := "(J)I", sig := { parameters := [.long], returnType := some .int }, accessFlags := 10, code := some k1c1 }
def k1c2 : Code := { maxStack := 2, maxLocals := 2, code := method_3_code, exceptionTable := #[], attributes := #[] }
def k1m2 : Method := { name := "below", desc := "(II)I", sig := { parameters := [.int, .int], returnType := some .int }, accessFlags := 10, code := some k1c2 }
def k1c3 : Code := { maxStack := 4, maxLocals := 29, code := code, exceptionTable := #[], attributes := #[] }
def k1m3 : Method := { name := "law", desc := "(IIII)Z", sig := { parameters := [.int, .int, .int, .int], returnType := some .boolean }, accessFlags := 9, code := some k1c3 }
/-- org/triplewright/engine/IntListLowerBoundPinLaw -/
def k1 : Class := { plain "org/triplewright/engine/IntListLowerBoundPinLaw" (some 0) with
  accessFlags := 49
  interfaces := #[]
  cf := some (fileOf pool1 23 #[] #[{ accessFlags := 1, nameIndex := 5, descriptorIndex := 6, attributes := #[] }, { accessFlags := 10, nameIndex := 26, descriptorIndex := 27, attributes := #[] }, { accessFlags := 10, nameIndex := 37, descriptorIndex := 38, attributes := #[] }, { accessFlags := 9, nameIndex := 46, descriptorIndex := 47, attributes := #[] }] 49 2 #[] #[])
  fields := #[]
  methods := #[k1m0, k1m1, k1m2, k1m3]
  instanceTypes := #[]
  staticTypes := #[]
  resolved := Array.replicate 50 none
  statics := none }

def pool2 : Array CpInfo := pool [(1, .class_ 2), (0, u "java/lang/Math"), (1, .class_ 6), (1, u "java/lang/Object"), (0, u "<init>"), (0, u "()V"), (89, .class_ 100), (1, u "java/lang/Math$RandomNumberGeneratorHolder"), (20, u "(JJ)J"), (50, u "negativeZeroFloatBits"), (0, u "J"), (2, u "negativeZeroDoubleBits"), (21, u "max"), (2, u "min"), (43, u "$assertionsDisabled"), (0, u "Z"), (88, u "(II)I"), (2, u "twoToTheDoubleScaleDown"), (0, u "D"), (4, u "twoToTheDoubleScaleUp"), (9, u "E"), (3, u "PI"), (2, u "TAU"), (2, u "DEGREES_TO_RADIANS"), (0, u "RADIANS_TO_DEGREES")] 94

def k2m0 : Method := { name := "<init>", desc := "()V", sig := { parameters := [], returnType := none }, accessFlags := 2, code := none }
def k2c1 : Code := { maxStack := 4, maxLocals := 4, code := jdk_29_method_66_code, exceptionTable := #[], attributes := #[] }
def k2m1 : Method := { name := "max", desc := "(JJ)J", sig := { parameters := [.long, .long], returnType := some .long }, accessFlags := 9, code := some k2c1 }
def k2c2 : Code := { maxStack := 2, maxLocals := 2, code := jdk_29_method_69_code, exceptionTable := #[], attributes := #[] }
def k2m2 : Method := { name := "min", desc := "(II)I", sig := { parameters := [.int, .int], returnType := some .int }, accessFlags := 9, code := some k2c2 }
def k2c3 : Code := { maxStack := 4, maxLocals := 4, code := jdk_29_method_70_code, exceptionTable := #[], attributes := #[] }
def k2m3 : Method := { name := "min", desc := "(JJ)J", sig := { parameters := [.long, .long], returnType := some .long }, accessFlags := 9, code := some k2c3 }
/-- java/lang/Math -/
def k2 : Class := { plain "java/lang/Math" (some 0) with
  accessFlags := 49
  interfaces := #[]
  cf := some (fileOf pool2 1 #[.nestMembers #[98]] #[{ accessFlags := 2, nameIndex := 7, descriptorIndex := 8, attributes := #[] }, { accessFlags := 9, nameIndex := 198, descriptorIndex := 121, attributes := #[] }, { accessFlags := 9, nameIndex := 201, descriptorIndex := 335, attributes := #[] }, { accessFlags := 9, nameIndex := 201, descriptorIndex := 121, attributes := #[] }] 49 4 #[] #[{ accessFlags := 25, nameIndex := 354, descriptorIndex := 339, attributes := #[] }, { accessFlags := 25, nameIndex := 358, descriptorIndex := 339, attributes := #[] }, { accessFlags := 25, nameIndex := 361, descriptorIndex := 339, attributes := #[] }, { accessFlags := 26, nameIndex := 364, descriptorIndex := 339, attributes := #[] }, { accessFlags := 26, nameIndex := 365, descriptorIndex := 339, attributes := #[] }, { accessFlags := 26, nameIndex := 172, descriptorIndex := 173, attributes := #[] }, { accessFlags := 26, nameIndex := 176, descriptorIndex := 173, attributes := #[] }, { accessFlags := 8, nameIndex := 344, descriptorIndex := 339, attributes := #[] }, { accessFlags := 8, nameIndex := 338, descriptorIndex := 339, attributes := #[] }, { accessFlags := 4120, nameIndex := 245, descriptorIndex := 246, attributes := #[] }])
  fields := #[{ name := "E", type := .double, accessFlags := 25, slot := 0, constantValue := 0 }, { name := "PI", type := .double, accessFlags := 25, slot := 1, constantValue := 0 }, { name := "TAU", type := .double, accessFlags := 25, slot := 2, constantValue := 0 }, { name := "DEGREES_TO_RADIANS", type := .double, accessFlags := 26, slot := 3, constantValue := 0 }, { name := "RADIANS_TO_DEGREES", type := .double, accessFlags := 26, slot := 4, constantValue := 0 }, { name := "negativeZeroFloatBits", type := .long, accessFlags := 26, slot := 5, constantValue := 0 }, { name := "negativeZeroDoubleBits", type := .long, accessFlags := 26, slot := 6, constantValue := 0 }, { name := "twoToTheDoubleScaleUp", type := .double, accessFlags := 8, slot := 7, constantValue := 0 }, { name := "twoToTheDoubleScaleDown", type := .double, accessFlags := 8, slot := 8, constantValue := 0 }, { name := "$assertionsDisabled", type := .boolean, accessFlags := 4120, slot := 9, constantValue := 0 }]
  methods := #[k2m0, k2m1, k2m2, k2m3]
  instanceTypes := #[]
  staticTypes := #[.double, .double, .double, .double, .double, .long, .long, .double, .double, .boolean]
  resolved := Array.replicate 460 none
  statics := none }

def pool3 : Array CpInfo := pool [(1, .methodref 2 3), (0, .class_ 4), (0, .nameAndType 5 6), (0, u "java/lang/Object"), (0, u "<init>"), (0, u "()V"), (0, .fieldref 8 9), (0, .class_ 10), (0, .nameAndType 11 12), (0, u "org/triplewright/engine/IntList"), (0, u "values"), (0, u "[I"), (0, .fieldref 8 14), (0, .nameAndType 15 16), (0, u "size"), (0, u "I"), (0, .methodref 18 19), (0, .class_ 20), (0, .nameAndType 21 22), (0, u "java/util/Arrays"), (0, u "copyOf"), (0, u "([II)[I"), (2, u "add"), (0, u "(I)V"), (2, u "(I)I"), (1, u "lowerBound")] 2

def k3c0 : Code := { maxStack := 2, maxLocals := 1, code := prog_13_method_1_code, exceptionTable := #[], attributes := #[] }
def k3m0 : Method := { name := "<init>", desc := "()V", sig := { parameters := [], returnType := none }, accessFlags := 0, code := some k3c0 }
def k3c1 : Code := { maxStack := 5, maxLocals := 2, code := prog_13_method_2_code, exceptionTable := #[], attributes := #[] }
def k3m1 : Method := { name := "add", desc := "(I)V", sig := { parameters := [.int], returnType := none }, accessFlags := 0, code := some k3c1 }
def k3c2 : Code := { maxStack := 2, maxLocals := 5, code := prog_13_method_5_code, exceptionTable := #[], attributes := #[] }
def k3m2 : Method := { name := "lowerBound", desc := "(I)I", sig := { parameters := [.int], returnType := some .int }, accessFlags := 0, code := some k3c2 }
/-- org/triplewright/engine/IntList -/
def k3 : Class := { plain "org/triplewright/engine/IntList" (some 0) with
  accessFlags := 48
  interfaces := #[]
  cf := some (fileOf pool3 8 #[] #[{ accessFlags := 0, nameIndex := 5, descriptorIndex := 6, attributes := #[] }, { accessFlags := 0, nameIndex := 25, descriptorIndex := 26, attributes := #[] }, { accessFlags := 0, nameIndex := 31, descriptorIndex := 29, attributes := #[] }] 48 2 #[] #[{ accessFlags := 2, nameIndex := 11, descriptorIndex := 12, attributes := #[] }, { accessFlags := 2, nameIndex := 15, descriptorIndex := 16, attributes := #[] }])
  fields := #[{ name := "values", type := (.array .int), accessFlags := 2, slot := 0, constantValue := 0 }, { name := "size", type := .int, accessFlags := 2, slot := 1, constantValue := 0 }]
  methods := #[k3m0, k3m1, k3m2]
  instanceTypes := #[(.array .int), .int]
  staticTypes := #[]
  resolved := Array.replicate 34 none
  statics := none }

def pool4 : Array CpInfo := pool [(2, .class_ 4), (1, u "java/lang/Object"), (0, u "<init>"), (0, u "()V"), (7, .class_ 16), (1, u "java/util/Arrays"), (57, .class_ 76), (1, u "java/util/Arrays$NaturalOrder"), (36, .class_ 115), (1, u "java/util/Arrays$LegacyMergeSort"), (1, u "Z"), (32, .methodref 151 152), (0, .class_ 153), (0, .nameAndType 154 155), (0, u "java/lang/System"), (0, u "arraycopy"), (0, u "(Ljava/lang/Object;ILjava/lang/Object;II)V"), (146, u "copyOf"), (1, .methodref 305 306), (0, .class_ 307), (0, .nameAndType 308 309), (0, u "java/lang/Math"), (0, u "min"), (0, u "(II)I"), (65, .class_ 376), (0, u "java/util/Arrays$ArrayList"), (68, u "$assertionsDisabled"), (269, u "MIN_ARRAY_SORT_GRAN"), (0, u "I"), (2, u "INSERTIONSORT_THRESHOLD"), (151, u "([II)[I"), (103, .class_ 976), (0, u "java/util/Arrays$ArrayItr")] 52

def k4m0 : Method := { name := "<init>", desc := "()V", sig := { parameters := [], returnType := none }, accessFlags := 2, code := none }
def k4c1 : Code := { maxStack := 6, maxLocals := 3, code := jdk_65_method_123_code, exceptionTable := #[], attributes := #[] }
def k4m1 : Method := { name := "copyOf", desc := "([II)[I", sig := { parameters := [(.array .int), .int], returnType := some (.array .int) }, accessFlags := 9, code := some k4c1 }
/-- java/util/Arrays -/
def k4 : Class := { plain "java/util/Arrays" (some 0) with
  accessFlags := 49
  interfaces := #[]
  cf := some (fileOf pool4 14 #[.nestMembers #[975, 375, 113, 74]] #[{ accessFlags := 2, nameIndex := 5, descriptorIndex := 6, attributes := #[] }, { accessFlags := 9, nameIndex := 302, descriptorIndex := 871, attributes := #[] }] 49 2 #[] #[{ accessFlags := 26, nameIndex := 715, descriptorIndex := 716, attributes := #[] }, { accessFlags := 26, nameIndex := 719, descriptorIndex := 716, attributes := #[] }, { accessFlags := 4120, nameIndex := 445, descriptorIndex := 117, attributes := #[] }])
  fields := #[{ name := "MIN_ARRAY_SORT_GRAN", type := .int, accessFlags := 26, slot := 0, constantValue := 0 }, { name := "INSERTIONSORT_THRESHOLD", type := .int, accessFlags := 26, slot := 1, constantValue := 0 }, { name := "$assertionsDisabled", type := .boolean, accessFlags := 4120, slot := 2, constantValue := 0 }]
  methods := #[k4m0, k4m1]
  instanceTypes := #[]
  staticTypes := #[.int, .int, .boolean]
  resolved := Array.replicate 1029 none
  statics := none }

def pool5 : Array CpInfo := pool [(2, .class_ 4), (1, u "java/lang/Object"), (0, u "<init>"), (0, u "()V"), (1, .class_ 10), (1, u "java/lang/System"), (0, u "allowSecurityManager"), (0, u "I"), (16, u "cons"), (0, u "Ljava/io/Console;"), (77, .class_ 110), (1, u "java/lang/System$CallersHolder"), (43, u "initialErrStream"), (0, u "Ljava/io/PrintStream;"), (19, u "security"), (0, u "Ljava/lang/SecurityManager;"), (31, .class_ 209), (0, u "java/lang/System$1"), (7, u "props"), (0, u "Ljava/util/Properties;"), (2, u "lineSeparator"), (0, u "Ljava/lang/String;"), (96, .class_ 321), (1, u "java/lang/System$LoggerFinder"), (5, .class_ 328), (0, u "java/lang/System$Logger"), (67, u "err"), (2, u "out"), (91, u "notSupportedJnuEncoding"), (15, u "in"), (17, u "initialIn"), (0, u "Ljava/io/InputStream;"), (35, u "bootLayer"), (0, u "Ljava/lang/ModuleLayer;"), (99, .class_ 664), (0, u "java/lang/System$2"), (9, u "NEVER"), (2, u "MAYBE"), (49, u "arraycopy"), (0, u "(Ljava/lang/Object;ILjava/lang/Object;II)V"), (72, .class_ 802), (0, u "java/lang/System$Logger$Level")] 31

def k5m0 : Method := { name := "<init>", desc := "()V", sig := { parameters := [], returnType := none }, accessFlags := 2, code := none }
def k5m1 : Method := { name := "arraycopy", desc := "(Ljava/lang/Object;ILjava/lang/Object;II)V", sig := { parameters := [(.object "java/lang/Object"), .int, (.object "java/lang/Object"), .int, .int], returnType := none }, accessFlags := 265, code := none }
/-- java/lang/System -/
def k5 : Class := { plain "java/lang/System" (some 0) with
  accessFlags := 49
  interfaces := #[]
  cf := some (fileOf pool5 8 #[.nestMembers #[319, 327, 801, 108, 663, 208]] #[{ accessFlags := 2, nameIndex := 5, descriptorIndex := 6, attributes := #[] }, { accessFlags := 265, nameIndex := 727, descriptorIndex := 728, attributes := #[] }] 49 2 #[] #[{ accessFlags := 25, nameIndex := 507, descriptorIndex := 526, attributes := #[] }, { accessFlags := 25, nameIndex := 399, descriptorIndex := 155, attributes := #[] }, { accessFlags := 25, nameIndex := 396, descriptorIndex := 155, attributes := #[] }, { accessFlags := 10, nameIndex := 525, descriptorIndex := 526, attributes := #[] }, { accessFlags := 26, nameIndex := 674, descriptorIndex := 12, attributes := #[] }, { accessFlags := 26, nameIndex := 677, descriptorIndex := 12, attributes := #[] }, { accessFlags := 10, nameIndex := 11, descriptorIndex := 12, attributes := #[] }, { accessFlags := 74, nameIndex := 175, descriptorIndex := 176, attributes := #[] }, { accessFlags := 10, nameIndex := 491, descriptorIndex := 222, attributes := #[] }, { accessFlags := 74, nameIndex := 29, descriptorIndex := 30, attributes := #[] }, { accessFlags := 74, nameIndex := 154, descriptorIndex := 155, attributes := #[] }, { accessFlags := 10, nameIndex := 217, descriptorIndex := 218, attributes := #[] }, { accessFlags := 10, nameIndex := 221, descriptorIndex := 222, attributes := #[] }, { accessFlags := 8, nameIndex := 562, descriptorIndex := 563, attributes := #[] }])
  fields := #[{ name := "in", type := (.object "java/io/InputStream"), accessFlags := 25, slot := 0, constantValue := 0 }, { name := "out", type := (.object "java/io/PrintStream"), accessFlags := 25, slot := 1, constantValue := 0 }, { name := "err", type := (.object "java/io/PrintStream"), accessFlags := 25, slot := 2, constantValue := 0 }, { name := "initialIn", type := (.object "java/io/InputStream"), accessFlags := 10, slot := 3, constantValue := 0 }, { name := "NEVER", type := .int, accessFlags := 26, slot := 4, constantValue := 0 }, { name := "MAYBE", type := .int, accessFlags := 26, slot := 5, constantValue := 0 }, { name := "allowSecurityManager", type := .int, accessFlags := 10, slot := 6, constantValue := 0 }, { name := "security", type := (.object "java/lang/SecurityManager"), accessFlags := 74, slot := 7, constantValue := 0 }, { name := "notSupportedJnuEncoding", type := (.object "java/lang/String"), accessFlags := 10, slot := 8, constantValue := 0 }, { name := "cons", type := (.object "java/io/Console"), accessFlags := 74, slot := 9, constantValue := 0 }, { name := "initialErrStream", type := (.object "java/io/PrintStream"), accessFlags := 74, slot := 10, constantValue := 0 }, { name := "props", type := (.object "java/util/Properties"), accessFlags := 10, slot := 11, constantValue := 0 }, { name := "lineSeparator", type := (.object "java/lang/String"), accessFlags := 10, slot := 12, constantValue := 0 }, { name := "bootLayer", type := (.object "java/lang/ModuleLayer"), accessFlags := 8, slot := 13, constantValue := 0 }]
  methods := #[k5m0, k5m1]
  instanceTypes := #[]
  staticTypes := #[(.object "java/io/InputStream"), (.object "java/io/PrintStream"), (.object "java/io/PrintStream"), (.object "java/io/InputStream"), .int, .int, .int, (.object "java/lang/SecurityManager"), (.object "java/lang/String"), (.object "java/io/Console"), (.object "java/io/PrintStream"), (.object "java/util/Properties"), (.object "java/lang/String"), (.object "java/lang/ModuleLayer")]
  resolved := Array.replicate 834 none
  statics := none }

def pool6 : Array CpInfo := pool [(1, u "java/lang/Cloneable"), (0, .class_ 1), (0, u "java/lang/Object"), (0, .class_ 3)] 3

/-- java/lang/Cloneable -/
def k6 : Class := { plain "java/lang/Cloneable" (some 0) with
  accessFlags := 1537
  interfaces := #[]
  cf := some (fileOf pool6 2 #[] #[] 1537 4 #[] #[])
  fields := #[]
  methods := #[]
  instanceTypes := #[]
  staticTypes := #[]
  resolved := Array.replicate 8 none
  statics := none }

def pool7 : Array CpInfo := pool [(1, u "java/io/Serializable"), (0, .class_ 1), (0, u "java/lang/Object"), (0, .class_ 3)] 3

/-- java/io/Serializable -/
def k7 : Class := { plain "java/io/Serializable" (some 0) with
  accessFlags := 1537
  interfaces := #[]
  cf := some (fileOf pool7 2 #[] #[] 1537 4 #[] #[])
  fields := #[]
  methods := #[]
  instanceTypes := #[]
  staticTypes := #[]
  resolved := Array.replicate 8 none
  statics := none }

/-- the primitive byte -/
def k8 : Class := { plain "byte" none with kind := .primitive 'B', accessFlags := 0x411 }
/-- [B -/
def k9 : Class := { plain "[B" (some 0) with kind := .array 8 .byte, interfaces := #[6, 7], accessFlags := 1041 }

/-- the primitive int -/
def k10 : Class := { plain "int" none with kind := .primitive 'I', accessFlags := 0x411 }
/-- [I -/
def k11 : Class := { plain "[I" (some 0) with kind := .array 10 .int, interfaces := #[6, 7], accessFlags := 1041 }

def heap : Heap := #[]
def classes : Array Class := #[k0, k1, k2, k3, k4, k5, k6, k7, k8, k9, k10, k11]
def interned : List (Array UInt16 × Addr) := []
def slotsUsed : Nat := 0
def theMethod : MethodId := ⟨1, 3⟩
def args0 : Array Value := #[.int 3, .int 9, .int 4, .int 3]
def aboutOver (below : List Frame) : State where
  vm := { classes := classes, interned := interned.toArray }
  heap := heap
  slotsUsed := slotsUsed
  threads := #[{ frames := .invoking theMethod args0 :: below }]
def below0 : List Frame := [.native { method := ⟨0, 0⟩, args := #[] }]
def about1 : State := aboutOver below0
def p0 : Program := .bare "" "" ""
def e0 : Env := launch0.env 0 0 0
theorem w_frames : about1.frames = Frame.invoking theMethod args0 :: below0 := rfl
set_option maxRecDepth 65536 in
theorem w_args : argsFit about1.vm theMethod args0 = true := by decide +kernel
set_option maxRecDepth 65536 in
theorem w_heap : heapFits about1 = true := by decide +kernel
set_option maxRecDepth 65536 in
theorem w_runnable : about1.curStatus? = some .runnable := by decide +kernel
set_option maxRecDepth 65536 in
theorem w_alone : about1.alone = true := by decide +kernel
set_option maxRecDepth 65536 in
theorem w_named : about1.methodNamed? x = some theMethod := by decide +kernel
set_option maxRecDepth 65536 in
theorem w_hears : about1.hears theMethod below0 = true := by decide +kernel
set_option maxRecDepth 65536 in
theorem w_ripe : about1.ripe theMethod args0 below0 = true := by decide +kernel
theorem w_running : about1.status = .running := rfl
set_option maxRecDepth 65536 in
theorem w_room : about1.hasRoom e0.platform room_1 = true :=
  launch0.hasRoom_least _ room_1 (by decide +kernel) (by decide +kernel) (by decide +kernel) (by decide +kernel) (by decide +kernel) (by decide +kernel)
theorem allAtoms_all (ts : List Jvm.Cond) (a : Array Jvm.Value) (st : Jvm.State) : (allAtoms ts).before a st = ts.all (fun c => c.before a st) := by
  induction ts with
  | nil => rfl
  | cons c t ih =>
    show (Jvm.Cond.and c (allAtoms t)).before a st = _
    rw [Jvm.Cond.before_and, ih, List.all_cons]
def words1 : List Jvm.Cond := Jvm.Cond.code x code maxLocals ret :: tables_1
/-- a 'code' word, met by the world's own term for the bytes: nothing is compared byte by byte -/
theorem code_word {y : MethodName} {bytes : ByteArray} {mx : Nat} {rt : Option FieldType} {a : Array Value} {s : State} {m : MethodId} {meth : Method} {c : Code} (h1 : s.methodNamed? y = some m) (h2 : s.vm.method? m = some meth) (h3 : meth.code = some c) (h4 : c.code = bytes)
    (h5 : (c.maxLocals == mx && c.exceptionTable.isEmpty && decide (c.maxStack ≤ mostOperands) && decide (meth.sig.returnType = rt) && !meth.locks && decide (parseMethodDescriptor y.desc = some meth.sig)) = true) : (Jvm.Cond.code y bytes mx rt).before a s = true := by
  simp only [Bool.and_eq_true, beq_iff_eq, Bool.not_eq_true', decide_eq_true_eq] at h5
  obtain ⟨⟨⟨⟨⟨g1, g2⟩, g3⟩, g4⟩, g5⟩, g6⟩ := h5
  simp [Cond.before, Cond.holds, Cond.value, h1, h2, h3, h4, g1, g2, g3, g4, g5, g6]
def isCode : Jvm.Cond → Bool
  | .code _ _ _ _ => true
  | _ => false
theorem all_split {L : List Jvm.Cond} {P : Jvm.Cond → Bool} (h1 : L.all (fun c => isCode c || P c) = true) (h2 : ∀ c ∈ L.filter isCode, P c = true) : L.all P = true := by
  refine List.all_eq_true.mpr fun c hc => ?_
  have h := List.all_eq_true.mp h1 c hc
  rcases Bool.eq_false_or_eq_true (isCode c) with hi | hi
  · exact h2 c (List.mem_filter.mpr ⟨hc, hi⟩)
  · simpa [hi] using h
set_option maxRecDepth 65536 in
theorem w_c0 : (Jvm.Cond.code x code maxLocals ret).before args0 about1 = true := code_word (m := ⟨1, 3⟩) (meth := k1m3) (c := k1c3) (by decide +kernel) rfl rfl rfl (by decide +kernel)
set_option maxRecDepth 65536 in
theorem w_c1 : (Jvm.Cond.code ({ cls := "org/triplewright/engine/IntListLowerBoundPinLaw", name := "clamp", desc := "(J)I" } : Jvm.MethodName) method_2_code (2 : Nat) (Option.some Jvm.ClassFile.FieldType.int)).before args0 about1 = true := code_word (m := ⟨1, 1⟩) (meth := k1m1) (c := k1c1) (by decide +kernel) rfl rfl rfl (by decide +kernel)
set_option maxRecDepth 65536 in
theorem w_c2 : (Jvm.Cond.code ({ cls := "java/lang/Math", name := "min", desc := "(JJ)J" } : Jvm.MethodName) jdk_29_method_70_code (4 : Nat) (Option.some Jvm.ClassFile.FieldType.long)).before args0 about1 = true := code_word (m := ⟨2, 3⟩) (meth := k2m3) (c := k2c3) (by decide +kernel) rfl rfl rfl (by decide +kernel)
set_option maxRecDepth 65536 in
theorem w_c3 : (Jvm.Cond.code ({ cls := "java/lang/Math", name := "max", desc := "(JJ)J" } : Jvm.MethodName) jdk_29_method_66_code (4 : Nat) (Option.some Jvm.ClassFile.FieldType.long)).before args0 about1 = true := code_word (m := ⟨2, 1⟩) (meth := k2m1) (c := k2c1) (by decide +kernel) rfl rfl rfl (by decide +kernel)
set_option maxRecDepth 65536 in
theorem w_c4 : (Jvm.Cond.code ({ cls := "org/triplewright/engine/IntList", name := "<init>", desc := "()V" } : Jvm.MethodName) prog_13_method_1_code (1 : Nat) (Option.none : Option Jvm.ClassFile.FieldType)).before args0 about1 = true := code_word (m := ⟨3, 0⟩) (meth := k3m0) (c := k3c0) (by decide +kernel) rfl rfl rfl (by decide +kernel)
set_option maxRecDepth 65536 in
theorem w_c5 : (Jvm.Cond.code ({ cls := "java/lang/Object", name := "<init>", desc := "()V" } : Jvm.MethodName) object_method_1_code (1 : Nat) (Option.none : Option Jvm.ClassFile.FieldType)).before args0 about1 = true := code_word (m := ⟨0, 0⟩) (meth := k0m0) (c := k0c0) (by decide +kernel) rfl rfl rfl (by decide +kernel)
set_option maxRecDepth 65536 in
theorem w_c6 : (Jvm.Cond.code ({ cls := "org/triplewright/engine/IntList", name := "add", desc := "(I)V" } : Jvm.MethodName) prog_13_method_2_code (2 : Nat) (Option.none : Option Jvm.ClassFile.FieldType)).before args0 about1 = true := code_word (m := ⟨3, 1⟩) (meth := k3m1) (c := k3c1) (by decide +kernel) rfl rfl rfl (by decide +kernel)
set_option maxRecDepth 65536 in
theorem w_c7 : (Jvm.Cond.code ({ cls := "org/triplewright/engine/IntListLowerBoundPinLaw", name := "below", desc := "(II)I" } : Jvm.MethodName) method_3_code (2 : Nat) (Option.some Jvm.ClassFile.FieldType.int)).before args0 about1 = true := code_word (m := ⟨1, 2⟩) (meth := k1m2) (c := k1c2) (by decide +kernel) rfl rfl rfl (by decide +kernel)
set_option maxRecDepth 65536 in
theorem w_c8 : (Jvm.Cond.code ({ cls := "org/triplewright/engine/IntList", name := "lowerBound", desc := "(I)I" } : Jvm.MethodName) prog_13_method_5_code (5 : Nat) (Option.some Jvm.ClassFile.FieldType.int)).before args0 about1 = true := code_word (m := ⟨3, 2⟩) (meth := k3m2) (c := k3c2) (by decide +kernel) rfl rfl rfl (by decide +kernel)
set_option maxRecDepth 65536 in
theorem w_c9 : (Jvm.Cond.code ({ cls := "java/util/Arrays", name := "copyOf", desc := "([II)[I" } : Jvm.MethodName) jdk_65_method_123_code (3 : Nat) (Option.some (Jvm.ClassFile.FieldType.array Jvm.ClassFile.FieldType.int))).before args0 about1 = true := code_word (m := ⟨4, 1⟩) (meth := k4m1) (c := k4c1) (by decide +kernel) rfl rfl rfl (by decide +kernel)
set_option maxRecDepth 65536 in
theorem w_c10 : (Jvm.Cond.code ({ cls := "java/lang/Math", name := "min", desc := "(II)I" } : Jvm.MethodName) jdk_29_method_69_code (2 : Nat) (Option.some Jvm.ClassFile.FieldType.int)).before args0 about1 = true := code_word (m := ⟨2, 2⟩) (meth := k2m2) (c := k2c2) (by decide +kernel) rfl rfl rfl (by decide +kernel)
def codes1 : List Jvm.Cond := [Jvm.Cond.code x code maxLocals ret, Jvm.Cond.code ({ cls := "org/triplewright/engine/IntListLowerBoundPinLaw", name := "clamp", desc := "(J)I" } : Jvm.MethodName) method_2_code (2 : Nat) (Option.some Jvm.ClassFile.FieldType.int), Jvm.Cond.code ({ cls := "java/lang/Math", name := "min", desc := "(JJ)J" } : Jvm.MethodName) jdk_29_method_70_code (4 : Nat) (Option.some Jvm.ClassFile.FieldType.long), Jvm.Cond.code ({ cls := "java/lang/Math", name := "max", desc := "(JJ)J" } : Jvm.MethodName) jdk_29_method_66_code (4 : Nat) (Option.some Jvm.ClassFile.FieldType.long), Jvm.Cond.code ({ cls := "org/triplewright/engine/IntList", name := "<init>", desc := "()V" } : Jvm.MethodName) prog_13_method_1_code (1 : Nat) (Option.none : Option Jvm.ClassFile.FieldType), Jvm.Cond.code ({ cls := "java/lang/Object", name := "<init>", desc := "()V" } : Jvm.MethodName) object_method_1_code (1 : Nat) (Option.none : Option Jvm.ClassFile.FieldType), Jvm.Cond.code ({ cls := "org/triplewright/engine/IntList", name := "add", desc := "(I)V" } : Jvm.MethodName) prog_13_method_2_code (2 : Nat) (Option.none : Option Jvm.ClassFile.FieldType), Jvm.Cond.code ({ cls := "org/triplewright/engine/IntListLowerBoundPinLaw", name := "below", desc := "(II)I" } : Jvm.MethodName) method_3_code (2 : Nat) (Option.some Jvm.ClassFile.FieldType.int), Jvm.Cond.code ({ cls := "org/triplewright/engine/IntList", name := "lowerBound", desc := "(I)I" } : Jvm.MethodName) prog_13_method_5_code (5 : Nat) (Option.some Jvm.ClassFile.FieldType.int), Jvm.Cond.code ({ cls := "java/util/Arrays", name := "copyOf", desc := "([II)[I" } : Jvm.MethodName) jdk_65_method_123_code (3 : Nat) (Option.some (Jvm.ClassFile.FieldType.array Jvm.ClassFile.FieldType.int)), Jvm.Cond.code ({ cls := "java/lang/Math", name := "min", desc := "(II)I" } : Jvm.MethodName) jdk_29_method_69_code (2 : Nat) (Option.some Jvm.ClassFile.FieldType.int)]
set_option maxRecDepth 65536 in
theorem codes_eq : words1.filter isCode = codes1 := rfl
theorem w_codes : ∀ c ∈ words1.filter isCode, c.before args0 about1 = true := by
  rw [codes_eq]
  intro c hc
  simp only [codes1, List.mem_cons, List.not_mem_nil, or_false] at hc
  rcases hc with rfl | rfl | rfl | rfl | rfl | rfl | rfl | rfl | rfl | rfl | rfl
  · exact w_c0
  · exact w_c1
  · exact w_c2
  · exact w_c3
  · exact w_c4
  · exact w_c5
  · exact w_c6
  · exact w_c7
  · exact w_c8
  · exact w_c9
  · exact w_c10
set_option maxRecDepth 65536 in
theorem w_t1 : (words1.take 24).all (fun c => isCode c || c.before args0 about1) = true := by decide +kernel
set_option maxRecDepth 65536 in
theorem w_t2 : ((words1.drop 24).take 24).all (fun c => isCode c || c.before args0 about1) = true := by decide +kernel
set_option maxRecDepth 65536 in
theorem w_t3 : ((words1.drop 24).drop 24).all (fun c => isCode c || c.before args0 about1) = true := by decide +kernel
theorem w_tables : (allAtoms (Jvm.Cond.code x code maxLocals ret :: tables_1)).before args0 about1 = true := by
  rw [allAtoms_all]
  show words1.all (fun c => c.before args0 about1) = true
  refine all_split ?_ w_codes
  rw [← List.take_append_drop 24 words1, List.all_append, w_t1, ← List.take_append_drop 24 (words1.drop 24), List.all_append, w_t2, w_t3]
  rfl
set_option maxRecDepth 65536 in
theorem w_case : (Jvm.Cond.and given_1 narrow_1).before args0 about1 = true := by decide +kernel
theorem w_applies : (headSpec (Jvm.Cond.code x code maxLocals ret :: tables_1) room_1).applies x e0.platform about1 = true :=
  (Spec.applies_iff w_frames).mpr ⟨w_running, w_runnable, w_alone, w_named, w_hears, w_ripe, w_room, w_tables⟩
theorem atStart : AtStart classFile x code maxLocals ret World_1 tables_1 room_1 Calls_1 rest_1 Pre_1 launch0 p0 e0 about1 theMethod args0 below0 :=
  ⟨lists_1, trivial, launch0.admits_env _ _ _, launch0.least_env, fairChoices_fair.cas, fairChoices_fair.clock, w_frames, w_args, w_heap, w_applies, trivial, trivial, w_case⟩
end start1
theorem witness_1 : WitnessClaimed_1 := ⟨start1.p0, start1.e0, start1.about1, start1.theMethod, start1.args0, start1.below0, start1.atStart⟩
end Jvm.Pilot.@@N@@
