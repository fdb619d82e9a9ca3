import JvmDerived
import JvmDerived.Pilot.@@N@@Statement
import JvmDerived.Pilot.@@N@@Code
set_option linter.unusedVariables false
set_option linter.unusedSimpArgs false
namespace Jvm.Pilot.@@N@@
open Jvm Jvm.ClassFile Sem Op Lib Jvm.Free Jvm.Stand Jvm.LawKit Jvm.RoadKit Bundle Jvm.Pilot.@@N@@.Jvm.D
/-- Java's x >>> y -/
def ushr (x y : Int32) : Int32 := (x.toUInt32 >>> (y &&& 31).toUInt32).toInt32
def ushrL (x : Int64) (y : Int32) : Int64 := (x.toUInt64 >>> (y &&& 0x3f).toInt64.toUInt64).toInt64
/-- what lcmp pushes -/
abbrev cmpL (x y : Int64) : Int32 := lcmpW x y
section Own
variable {p : Program} {l : Launch} {e : Env} {R : Room} {s : State} {m : MethodId} {args : Array Value} {below : List Frame} {meth : Method} {c : Code} {T : State} {locs : List Loc} {cells slots : Nat} {Z : State} {a0 : Array Value} {h : Heap} {Q : Option Value → Heap → List Loc → Prop} {K N pc : Nat} {Ls : Array Slot} {code : ByteArray} {rest : List Value}
/-- the run from here ends: the method returns, Q says what and over which heap -/
def Ends (p : Program) (e : Env) (below : List Frame) (s : State) (Q : Option Value → Heap → List Loc → Prop) (K N : Nat) (T : State) : Prop :=
  ∃ s₂ o, Steps p.tables e below T s₂ ∧ s₂.status = .running ∧ Ended s₂ below o ∧ ∃ v L, o = .returned v ∧ Q v s₂.heap L ∧ FrameEnd s o s₂ L K N
theorem Ends.step {T T' : State} (st : ∀ t, Steps p.tables e below T' t → Steps p.tables e below T t) (h : Ends p e below s Q K N T') : Ends p e below s Q K N T := by
  obtain ⟨s2, o, h1, h2⟩ := h
  exact ⟨s2, o, st _ h1, h2⟩
def Cx (p : Program) (c : Code) (code : ByteArray) : Prop := p.tables.exec = Jvm.exec ∧ c.code = code
/-- a method's contract -/
def Con (l : Launch) (Z : State) (y : MethodName) (bytes : ByteArray) (maxL : Nat) (ret : Option FieldType) (rm : Room) (K N : Nat) (ws : List Jvm.Cond) (as' : Array Value) (h : Heap) (Q : Option Value → Heap → List Loc → Prop) : Prop :=
  MetFree l y (head1 (Jvm.Cond.code y bytes maxL ret :: ws) rm) (fun a U => a = as' ∧ Z.Warmed39 U.vm ∧ U.heap = h) (fun _ _ _ _ _ => True) (fun _ U o U' => ∃ v L, o = .returned v ∧ Q v U'.heap L ∧ FrameEnd U o U' L K N)
theorem Con.of {y : MethodName} {bytes : ByteArray} {maxL : Nat} {ret : Option FieldType} {rm : Room} {ws : List Jvm.Cond} {as' : Array Value} (hn : plainFor y = true)
    (body : ∀ (p : Program) (e : Env) (s : State) (m : MethodId) (below : List Frame) (meth : Method) (c : Code) (T : State), Cx p c bytes → Z.Warmed39 s.vm → c.maxLocals = maxL → s.vm.findClass y.cls = some m.cls → meth.sig.returnType = ret → meth.name = y.name → meth.locks = false →
      Stand p l e rm s m as' below meth c T [] 0 0 → T.heap = h → Ends p e below s Q K N (T.setTop (entryFrame m as' maxL))) : Con l Z y bytes maxL ret rm K N ws as' h Q := by
  refine MetFree.of_bodySF hn hisR ?_
  intro p e s m args below meth c s₁ Bd hml0 hP hK
  obtain ⟨rfl, hZ, hh⟩ := hP
  exact body p e s m below meth c s₁ ⟨Bd.exec, Bd.bytes⟩ hZ hml0 (findClass_of_methodNamed Bd.named) Bd.returns (name_of_methodNamed Bd.named Bd.method).1 Bd.notSynchronized (Stand.of_body Bd) (by rw [← hh, Bd.state]; rfl)
theorem o_iadd (C : Cx p c code) (X : Stand p l e R s m args below meth c T locs cells slots) {x y : Int32} (hd : decode code pc = .ok (.iadd, 1)) (q : Nat) (hq : pc + 1 = q) (k : Ends p e below s Q K N (T.setTop (mkF m q Ls (.int (x + y) :: rest)))) : Ends p e below s Q K N (T.setTop (mkF m pc Ls (.int y :: .int x :: rest))) := by
  subst hq
  exact .step (fun _ t => XS.iadd X.here C.1 rfl (hb C.2 hd) rfl t) k
theorem o_isub (C : Cx p c code) (X : Stand p l e R s m args below meth c T locs cells slots) {x y : Int32} (hd : decode code pc = .ok (.isub, 1)) (q : Nat) (hq : pc + 1 = q) (k : Ends p e below s Q K N (T.setTop (mkF m q Ls (.int (x - y) :: rest)))) : Ends p e below s Q K N (T.setTop (mkF m pc Ls (.int y :: .int x :: rest))) := by
  subst hq
  exact .step (fun _ t => XS.isub X.here C.1 rfl (hb C.2 hd) rfl t) k
theorem o_imul (C : Cx p c code) (X : Stand p l e R s m args below meth c T locs cells slots) {x y : Int32} (hd : decode code pc = .ok (.imul, 1)) (q : Nat) (hq : pc + 1 = q) (k : Ends p e below s Q K N (T.setTop (mkF m q Ls (.int (x * y) :: rest)))) : Ends p e below s Q K N (T.setTop (mkF m pc Ls (.int y :: .int x :: rest))) := by
  subst hq
  exact .step (fun _ t => XS.imul X.here C.1 rfl (hb C.2 hd) rfl t) k
theorem o_iand (C : Cx p c code) (X : Stand p l e R s m args below meth c T locs cells slots) {x y : Int32} (hd : decode code pc = .ok (.iand, 1)) (q : Nat) (hq : pc + 1 = q) (k : Ends p e below s Q K N (T.setTop (mkF m q Ls (.int (x &&& y) :: rest)))) : Ends p e below s Q K N (T.setTop (mkF m pc Ls (.int y :: .int x :: rest))) := by
  subst hq
  exact .step (fun _ t => XS.iand X.here C.1 rfl (hb C.2 hd) rfl t) k
theorem o_ior (C : Cx p c code) (X : Stand p l e R s m args below meth c T locs cells slots) {x y : Int32} (hd : decode code pc = .ok (.ior, 1)) (q : Nat) (hq : pc + 1 = q) (k : Ends p e below s Q K N (T.setTop (mkF m q Ls (.int (x ||| y) :: rest)))) : Ends p e below s Q K N (T.setTop (mkF m pc Ls (.int y :: .int x :: rest))) := by
  subst hq
  exact .step (fun _ t => XS.ior X.here C.1 rfl (hb C.2 hd) rfl t) k
theorem o_ixor (C : Cx p c code) (X : Stand p l e R s m args below meth c T locs cells slots) {x y : Int32} (hd : decode code pc = .ok (.ixor, 1)) (q : Nat) (hq : pc + 1 = q) (k : Ends p e below s Q K N (T.setTop (mkF m q Ls (.int (x ^^^ y) :: rest)))) : Ends p e below s Q K N (T.setTop (mkF m pc Ls (.int y :: .int x :: rest))) := by
  subst hq
  exact .step (fun _ t => XS.ixor X.here C.1 rfl (hb C.2 hd) rfl t) k
theorem o_ishl (C : Cx p c code) (X : Stand p l e R s m args below meth c T locs cells slots) {x y : Int32} (hd : decode code pc = .ok (.ishl, 1)) (q : Nat) (hq : pc + 1 = q) (k : Ends p e below s Q K N (T.setTop (mkF m q Ls (.int (x <<< (y &&& 31)) :: rest)))) : Ends p e below s Q K N (T.setTop (mkF m pc Ls (.int y :: .int x :: rest))) := by
  subst hq
  exact .step (fun _ t => XS.ishl X.here C.1 rfl (hb C.2 hd) rfl t) k
theorem o_ishr (C : Cx p c code) (X : Stand p l e R s m args below meth c T locs cells slots) {x y : Int32} (hd : decode code pc = .ok (.ishr, 1)) (q : Nat) (hq : pc + 1 = q) (k : Ends p e below s Q K N (T.setTop (mkF m q Ls (.int (x >>> (y &&& 31)) :: rest)))) : Ends p e below s Q K N (T.setTop (mkF m pc Ls (.int y :: .int x :: rest))) := by
  subst hq
  exact .step (fun _ t => XS.ishr X.here C.1 rfl (hb C.2 hd) rfl t) k
theorem o_iushr (C : Cx p c code) (X : Stand p l e R s m args below meth c T locs cells slots) {x y : Int32} (hd : decode code pc = .ok (.iushr, 1)) (q : Nat) (hq : pc + 1 = q) (k : Ends p e below s Q K N (T.setTop (mkF m q Ls (.int (ushr x y) :: rest)))) : Ends p e below s Q K N (T.setTop (mkF m pc Ls (.int y :: .int x :: rest))) := by
  subst hq
  exact .step (fun _ t => XS.iushr X.here C.1 rfl (hb C.2 hd) rfl t) k
theorem o_irem (C : Cx p c code) (X : Stand p l e R s m args below meth c T locs cells slots) {x y : Int32} (hd : decode code pc = .ok (.irem, 1)) (q : Nat) (hq : pc + 1 = q) (hy : y ≠ 0) (k : Ends p e below s Q K N (T.setTop (mkF m q Ls (.int (x % y) :: rest)))) : Ends p e below s Q K N (T.setTop (mkF m pc Ls (.int y :: .int x :: rest))) := by
  subst hq
  exact .step (fun _ t => iremM X C.1 rfl (hb C.2 hd) rfl hy t) k
theorem o_idiv (C : Cx p c code) (X : Stand p l e R s m args below meth c T locs cells slots) {x y : Int32} (hd : decode code pc = .ok (.idiv, 1)) (q : Nat) (hq : pc + 1 = q) (hy : y ≠ 0) (k : Ends p e below s Q K N (T.setTop (mkF m q Ls (.int (x / y) :: rest)))) : Ends p e below s Q K N (T.setTop (mkF m pc Ls (.int y :: .int x :: rest))) := by
  subst hq
  exact .step (fun _ t => XS.idiv X.here C.1 rfl (hb C.2 hd) rfl hy t) k
theorem o_ladd (C : Cx p c code) (X : Stand p l e R s m args below meth c T locs cells slots) {x y : Int64} (hd : decode code pc = .ok (.ladd, 1)) (q : Nat) (hq : pc + 1 = q) (k : Ends p e below s Q K N (T.setTop (mkF m q Ls (.long (x + y) :: rest)))) : Ends p e below s Q K N (T.setTop (mkF m pc Ls (.long y :: .long x :: rest))) := by
  subst hq
  exact .step (fun _ t => XS.ladd X.here C.1 rfl (hb C.2 hd) rfl t) k
theorem o_lsub (C : Cx p c code) (X : Stand p l e R s m args below meth c T locs cells slots) {x y : Int64} (hd : decode code pc = .ok (.lsub, 1)) (q : Nat) (hq : pc + 1 = q) (k : Ends p e below s Q K N (T.setTop (mkF m q Ls (.long (x - y) :: rest)))) : Ends p e below s Q K N (T.setTop (mkF m pc Ls (.long y :: .long x :: rest))) := by
  subst hq
  exact .step (fun _ t => XS.lsub X.here C.1 rfl (hb C.2 hd) rfl t) k
theorem o_land (C : Cx p c code) (X : Stand p l e R s m args below meth c T locs cells slots) {x y : Int64} (hd : decode code pc = .ok (.land, 1)) (q : Nat) (hq : pc + 1 = q) (k : Ends p e below s Q K N (T.setTop (mkF m q Ls (.long (x &&& y) :: rest)))) : Ends p e below s Q K N (T.setTop (mkF m pc Ls (.long y :: .long x :: rest))) := by
  subst hq
  exact .step (fun _ t => XS.land X.here C.1 rfl (hb C.2 hd) rfl t) k
theorem o_lor (C : Cx p c code) (X : Stand p l e R s m args below meth c T locs cells slots) {x y : Int64} (hd : decode code pc = .ok (.lor, 1)) (q : Nat) (hq : pc + 1 = q) (k : Ends p e below s Q K N (T.setTop (mkF m q Ls (.long (x ||| y) :: rest)))) : Ends p e below s Q K N (T.setTop (mkF m pc Ls (.long y :: .long x :: rest))) := by
  subst hq
  exact .step (fun _ t => XS.lor X.here C.1 rfl (hb C.2 hd) rfl t) k
theorem o_lxor (C : Cx p c code) (X : Stand p l e R s m args below meth c T locs cells slots) {x y : Int64} (hd : decode code pc = .ok (.lxor, 1)) (q : Nat) (hq : pc + 1 = q) (k : Ends p e below s Q K N (T.setTop (mkF m q Ls (.long (x ^^^ y) :: rest)))) : Ends p e below s Q K N (T.setTop (mkF m pc Ls (.long y :: .long x :: rest))) := by
  subst hq
  exact .step (fun _ t => XS.lxor X.here C.1 rfl (hb C.2 hd) rfl t) k
theorem o_lushr (C : Cx p c code) (X : Stand p l e R s m args below meth c T locs cells slots) {x : Int64} {y : Int32} (hd : decode code pc = .ok (.lushr, 1)) (q : Nat) (hq : pc + 1 = q) (k : Ends p e below s Q K N (T.setTop (mkF m q Ls (.long (ushrL x y) :: rest)))) : Ends p e below s Q K N (T.setTop (mkF m pc Ls (.int y :: .long x :: rest))) := by
  subst hq
  exact .step (fun _ t => XS.lushr X.here C.1 rfl (hb C.2 hd) rfl t) k
theorem o_lcmp (C : Cx p c code) (X : Stand p l e R s m args below meth c T locs cells slots) {x y : Int64} (hd : decode code pc = .ok (.lcmp, 1)) (q : Nat) (hq : pc + 1 = q) (k : Ends p e below s Q K N (T.setTop (mkF m q Ls (.int (cmpL x y) :: rest)))) : Ends p e below s Q K N (T.setTop (mkF m pc Ls (.long y :: .long x :: rest))) := by
  subst hq
  exact .step (fun _ t => XS.lcmp X.here C.1 rfl (hb C.2 hd) rfl t) k
theorem o_i2l (C : Cx p c code) (X : Stand p l e R s m args below meth c T locs cells slots) {x : Int32} (hd : decode code pc = .ok (.i2l, 1)) (q : Nat) (hq : pc + 1 = q) (k : Ends p e below s Q K N (T.setTop (mkF m q Ls (.long x.toInt64 :: rest)))) : Ends p e below s Q K N (T.setTop (mkF m pc Ls (.int x :: rest))) := by
  subst hq
  exact .step (fun _ t => XS.i2l X.here C.1 rfl (hb C.2 hd) rfl t) k
theorem o_l2i (C : Cx p c code) (X : Stand p l e R s m args below meth c T locs cells slots) {x : Int64} (hd : decode code pc = .ok (.l2i, 1)) (q : Nat) (hq : pc + 1 = q) (k : Ends p e below s Q K N (T.setTop (mkF m q Ls (.int x.toInt32 :: rest)))) : Ends p e below s Q K N (T.setTop (mkF m pc Ls (.long x :: rest))) := by
  subst hq
  exact .step (fun _ t => XS.l2i X.here C.1 rfl (hb C.2 hd) rfl t) k
theorem o_i2b (C : Cx p c code) (X : Stand p l e R s m args below meth c T locs cells slots) {x : Int32} (hd : decode code pc = .ok (.i2b, 1)) (q : Nat) (hq : pc + 1 = q) (k : Ends p e below s Q K N (T.setTop (mkF m q Ls (.int x.toInt8.toInt32 :: rest)))) : Ends p e below s Q K N (T.setTop (mkF m pc Ls (.int x :: rest))) := by
  subst hq
  exact .step (fun _ t => XS.i2b X.here C.1 rfl (hb C.2 hd) rfl t) k
theorem o_i2c (C : Cx p c code) (X : Stand p l e R s m args below meth c T locs cells slots) {x : Int32} (hd : decode code pc = .ok (.i2c, 1)) (q : Nat) (hq : pc + 1 = q) (k : Ends p e below s Q K N (T.setTop (mkF m q Ls (.int x.toUInt32.toUInt16.toUInt32.toInt32 :: rest)))) : Ends p e below s Q K N (T.setTop (mkF m pc Ls (.int x :: rest))) := by
  subst hq
  exact .step (fun _ t => XS.i2c X.here C.1 rfl (hb C.2 hd) rfl t) k
theorem o_iconst (C : Cx p c code) (X : Stand p l e R s m args below meth c T locs cells slots) {i : Int} (hd : decode code pc = .ok (.iconst i, 1)) (q : Nat) (hq : pc + 1 = q) (v : Int32) (hv : Int32.ofInt i = v) (k : Ends p e below s Q K N (T.setTop (mkF m q Ls (.int v :: rest)))) : Ends p e below s Q K N (T.setTop (mkF m pc Ls rest)) := by
  subst hq
  exact .step (fun _ t => XS.iconst X.here C.1 rfl (hb C.2 hd) (by rw [hv]; exact t)) k
theorem o_bipush (C : Cx p c code) (X : Stand p l e R s m args below meth c T locs cells slots) {i : Int} (hd : decode code pc = .ok (.bipush i, 2)) (q : Nat) (hq : pc + 2 = q) (v : Int32) (hv : (Int8.ofInt i).toInt32 = v) (k : Ends p e below s Q K N (T.setTop (mkF m q Ls (.int v :: rest)))) : Ends p e below s Q K N (T.setTop (mkF m pc Ls rest)) := by
  subst hq
  exact .step (fun _ t => XS.bipush X.here C.1 rfl (hb C.2 hd) (by rw [hv]; exact t)) k
theorem o_sipush (C : Cx p c code) (X : Stand p l e R s m args below meth c T locs cells slots) {i : Int} (hd : decode code pc = .ok (.sipush i, 3)) (q : Nat) (hq : pc + 3 = q) (v : Int32) (hv : (Int16.ofInt i).toInt32 = v) (k : Ends p e below s Q K N (T.setTop (mkF m q Ls (.int v :: rest)))) : Ends p e below s Q K N (T.setTop (mkF m pc Ls rest)) := by
  subst hq
  exact .step (fun _ t => XS.sipush X.here C.1 rfl (hb C.2 hd) (by rw [hv]; exact t)) k
theorem o_lconst (C : Cx p c code) (X : Stand p l e R s m args below meth c T locs cells slots) {i : Fin 2} (hd : decode code pc = .ok (.lconst i, 1)) (q : Nat) (hq : pc + 1 = q) (v : Int64) (hv : Int64.ofNat i = v) (k : Ends p e below s Q K N (T.setTop (mkF m q Ls (.long v :: rest)))) : Ends p e below s Q K N (T.setTop (mkF m pc Ls rest)) := by
  subst hq
  exact .step (fun _ t => XS.lconst X.here C.1 rfl (hb C.2 hd) (by rw [hv]; exact t)) k
theorem o_aconst_null (C : Cx p c code) (X : Stand p l e R s m args below meth c T locs cells slots) (hd : decode code pc = .ok (.aconst_null, 1)) (q : Nat) (hq : pc + 1 = q) (k : Ends p e below s Q K N (T.setTop (mkF m q Ls (.null :: rest)))) : Ends p e below s Q K N (T.setTop (mkF m pc Ls rest)) := by
  subst hq
  exact .step (fun _ t => XS.aconstNull X.here C.1 rfl (hb C.2 hd) t) k
theorem o_dup (C : Cx p c code) (X : Stand p l e R s m args below meth c T locs cells slots) {x : Value} (hd : decode code pc = .ok (.dup, 1)) (q : Nat) (hq : pc + 1 = q) (hc : x.category = 1) (k : Ends p e below s Q K N (T.setTop (mkF m q Ls (x :: x :: rest)))) : Ends p e below s Q K N (T.setTop (mkF m pc Ls (x :: rest))) := by
  subst hq
  exact .step (fun _ t => XS.dup X.here C.1 rfl (hb C.2 hd) rfl hc t) k
theorem o_dup_x1 (C : Cx p c code) (X : Stand p l e R s m args below meth c T locs cells slots) {x y : Value} (hd : decode code pc = .ok (.dup_x1, 1)) (q : Nat) (hq : pc + 1 = q) (hc : x.category = 1) (hc' : y.category = 1) (k : Ends p e below s Q K N (T.setTop (mkF m q Ls (x :: y :: x :: rest)))) : Ends p e below s Q K N (T.setTop (mkF m pc Ls (x :: y :: rest))) := by
  subst hq
  exact .step (fun _ t => XS.dupX1 X.here C.1 rfl (hb C.2 hd) rfl hc hc' t) k
theorem o_pop (C : Cx p c code) (X : Stand p l e R s m args below meth c T locs cells slots) {x : Value} (hd : decode code pc = .ok (.pop, 1)) (q : Nat) (hq : pc + 1 = q) (hc : x.category = 1) (k : Ends p e below s Q K N (T.setTop (mkF m q Ls rest))) : Ends p e below s Q K N (T.setTop (mkF m pc Ls (x :: rest))) := by
  subst hq
  exact .step (fun _ t => XS.pop X.here C.1 rfl (hb C.2 hd) rfl hc t) k
theorem o_iloadN (C : Cx p c code) (X : Stand p l e R s m args below meth c T locs cells slots) {i : Fin 4} {v : Int32} (hd : decode code pc = .ok (.iload_n i, 1)) (q : Nat) (hq : pc + 1 = q) (hl : Ls[i.val]? = some (.val (.int v))) (k : Ends p e below s Q K N (T.setTop (mkF m q Ls (.int v :: rest)))) : Ends p e below s Q K N (T.setTop (mkF m pc Ls rest)) := by
  subst hq
  exact .step (fun _ t => XS.iloadN X.here C.1 rfl (hb C.2 hd) hl t) k
theorem o_iload (C : Cx p c code) (X : Stand p l e R s m args below meth c T locs cells slots) {i : Nat} {v : Int32} (hd : decode code pc = .ok (.iload i, 2)) (q : Nat) (hq : pc + 2 = q) (hl : Ls[i]? = some (.val (.int v))) (k : Ends p e below s Q K N (T.setTop (mkF m q Ls (.int v :: rest)))) : Ends p e below s Q K N (T.setTop (mkF m pc Ls rest)) := by
  subst hq
  exact .step (fun _ t => XS.iload X.here C.1 rfl (hb C.2 hd) hl t) k
theorem o_lloadN (C : Cx p c code) (X : Stand p l e R s m args below meth c T locs cells slots) {i : Fin 4} {v : Int64} (hd : decode code pc = .ok (.lload_n i, 1)) (q : Nat) (hq : pc + 1 = q) (hl : Ls[i.val]? = some (.val (.long v))) (k : Ends p e below s Q K N (T.setTop (mkF m q Ls (.long v :: rest)))) : Ends p e below s Q K N (T.setTop (mkF m pc Ls rest)) := by
  subst hq
  exact .step (fun _ t => XS.lloadN X.here C.1 rfl (hb C.2 hd) hl t) k
theorem o_lload (C : Cx p c code) (X : Stand p l e R s m args below meth c T locs cells slots) {i : Nat} {v : Int64} (hd : decode code pc = .ok (.lload i, 2)) (q : Nat) (hq : pc + 2 = q) (hl : Ls[i]? = some (.val (.long v))) (k : Ends p e below s Q K N (T.setTop (mkF m q Ls (.long v :: rest)))) : Ends p e below s Q K N (T.setTop (mkF m pc Ls rest)) := by
  subst hq
  exact .step (fun _ t => XS.lload X.here C.1 rfl (hb C.2 hd) hl t) k
theorem o_aloadN (C : Cx p c code) (X : Stand p l e R s m args below meth c T locs cells slots) {i : Fin 4} {v : Value} (hd : decode code pc = .ok (.aload_n i, 1)) (q : Nat) (hq : pc + 1 = q) (hl : Ls[i.val]? = some (.val v)) (hv : v.isRef = true) (k : Ends p e below s Q K N (T.setTop (mkF m q Ls (v :: rest)))) : Ends p e below s Q K N (T.setTop (mkF m pc Ls rest)) := by
  subst hq
  exact .step (fun _ t => XS.aloadN X.here C.1 rfl (hb C.2 hd) hl hv t) k
theorem o_aload (C : Cx p c code) (X : Stand p l e R s m args below meth c T locs cells slots) {i : Nat} {v : Value} (hd : decode code pc = .ok (.aload i, 2)) (q : Nat) (hq : pc + 2 = q) (hl : Ls[i]? = some (.val v)) (hv : v.isRef = true) (k : Ends p e below s Q K N (T.setTop (mkF m q Ls (v :: rest)))) : Ends p e below s Q K N (T.setTop (mkF m pc Ls rest)) := by
  subst hq
  exact .step (fun _ t => XS.aload X.here C.1 rfl (hb C.2 hd) hl hv t) k
theorem o_istoreN (C : Cx p c code) (X : Stand p l e R s m args below meth c T locs cells slots) {i : Fin 4} {x : Int32} (hd : decode code pc = .ok (.istore_n i, 1)) (q : Nat) (hq : pc + 1 = q) (l' : Array Slot) (hl : storeLocals Ls i.val (.int x) = some l') (k : Ends p e below s Q K N (T.setTop (mkF m q l' rest))) : Ends p e below s Q K N (T.setTop (mkF m pc Ls (.int x :: rest))) := by
  subst hq
  exact .step (fun _ t => XS.istoreN X.here C.1 rfl (hb C.2 hd) rfl hl t) k
theorem o_istore (C : Cx p c code) (X : Stand p l e R s m args below meth c T locs cells slots) {i : Nat} {x : Int32} (hd : decode code pc = .ok (.istore i, 2)) (q : Nat) (hq : pc + 2 = q) (l' : Array Slot) (hl : storeLocals Ls i (.int x) = some l') (k : Ends p e below s Q K N (T.setTop (mkF m q l' rest))) : Ends p e below s Q K N (T.setTop (mkF m pc Ls (.int x :: rest))) := by
  subst hq
  exact .step (fun _ t => XS.istore X.here C.1 rfl (hb C.2 hd) rfl hl t) k
theorem o_lstoreN (C : Cx p c code) (X : Stand p l e R s m args below meth c T locs cells slots) {i : Fin 4} {x : Int64} (hd : decode code pc = .ok (.lstore_n i, 1)) (q : Nat) (hq : pc + 1 = q) (l' : Array Slot) (hl : storeLocals Ls i.val (.long x) = some l') (k : Ends p e below s Q K N (T.setTop (mkF m q l' rest))) : Ends p e below s Q K N (T.setTop (mkF m pc Ls (.long x :: rest))) := by
  subst hq
  exact .step (fun _ t => XS.lstoreN X.here C.1 rfl (hb C.2 hd) rfl hl t) k
theorem o_lstore (C : Cx p c code) (X : Stand p l e R s m args below meth c T locs cells slots) {i : Nat} {x : Int64} (hd : decode code pc = .ok (.lstore i, 2)) (q : Nat) (hq : pc + 2 = q) (l' : Array Slot) (hl : storeLocals Ls i (.long x) = some l') (k : Ends p e below s Q K N (T.setTop (mkF m q l' rest))) : Ends p e below s Q K N (T.setTop (mkF m pc Ls (.long x :: rest))) := by
  subst hq
  exact .step (fun _ t => XS.lstore X.here C.1 rfl (hb C.2 hd) rfl hl t) k
theorem o_astoreN (C : Cx p c code) (X : Stand p l e R s m args below meth c T locs cells slots) {i : Fin 4} {x : Value} (hd : decode code pc = .ok (.astore_n i, 1)) (q : Nat) (hq : pc + 1 = q) (hv : x.isRef = true) (l' : Array Slot) (hl : storeLocals Ls i.val x = some l') (k : Ends p e below s Q K N (T.setTop (mkF m q l' rest))) : Ends p e below s Q K N (T.setTop (mkF m pc Ls (x :: rest))) := by
  subst hq
  exact .step (fun _ t => XS.astoreN X.here C.1 rfl (hb C.2 hd) rfl hv hl t) k
theorem o_astore (C : Cx p c code) (X : Stand p l e R s m args below meth c T locs cells slots) {i : Nat} {x : Value} (hd : decode code pc = .ok (.astore i, 2)) (q : Nat) (hq : pc + 2 = q) (hv : x.isRef = true) (l' : Array Slot) (hl : storeLocals Ls i x = some l') (k : Ends p e below s Q K N (T.setTop (mkF m q l' rest))) : Ends p e below s Q K N (T.setTop (mkF m pc Ls (x :: rest))) := by
  subst hq
  exact .step (fun _ t => XS.astore X.here C.1 rfl (hb C.2 hd) rfl hv hl t) k
theorem o_iinc (C : Cx p c code) (X : Stand p l e R s m args below meth c T locs cells slots) {i : Nat} {cst : Int} {x : Int32} (v : Int32) (hd : decode code pc = .ok (.iinc i cst, 3)) (q : Nat) (hq : pc + 3 = q) (l' : Array Slot) (hl : Ls[i]? = some (.val (.int x))) (hv : x + Int32.ofInt cst = v) (hl' : storeLocals Ls i (.int v) = some l') (k : Ends p e below s Q K N (T.setTop (mkF m q l' rest))) : Ends p e below s Q K N (T.setTop (mkF m pc Ls rest)) := by
  subst hq hv
  exact .step (fun _ t => XS.iinc X.here C.1 rfl (hb C.2 hd) hl hl' t) k
theorem o_goto (C : Cx p c code) (X : Stand p l e R s m args below meth c T locs cells slots) {o : Int} (hd : decode code pc = .ok (.goto o, 3)) (q : Nat) (ho : 0 ≤ (pc : Int) + o) (hq : ((pc : Int) + o).toNat = q) (k : Ends p e below s Q K N (T.setTop (mkF m q Ls rest))) : Ends p e below s Q K N (T.setTop (mkF m pc Ls rest)) := by
  exact .step (fun _ t => XS.goto X.here C.1 rfl (pc0 := pc) rfl (hb C.2 hd) ho hq t) k
theorem o_ifY (C : Cx p c code) (X : Stand p l e R s m args below meth c T locs cells slots) {cd : ClassFile.Cond} {o : Int} {x : Int32} (hd : decode code pc = .ok (.ifCond cd o, 3)) (q : Nat) (ho : 0 ≤ (pc : Int) + o) (hq : ((pc : Int) + o).toNat = q) (hc : ifCond.holds cd x = true) (k : Ends p e below s Q K N (T.setTop (mkF m q Ls rest))) : Ends p e below s Q K N (T.setTop (mkF m pc Ls (.int x :: rest))) := by
  exact .step (fun _ t => XS.ifYes X.here C.1 rfl (pc0 := pc) rfl (hb C.2 hd) rfl hc ho hq t) k
theorem o_ifN (C : Cx p c code) (X : Stand p l e R s m args below meth c T locs cells slots) {cd : ClassFile.Cond} {o : Int} {x : Int32} (hd : decode code pc = .ok (.ifCond cd o, 3)) (q : Nat) (hq : pc + 3 = q) (hc : ifCond.holds cd x = false) (k : Ends p e below s Q K N (T.setTop (mkF m q Ls rest))) : Ends p e below s Q K N (T.setTop (mkF m pc Ls (.int x :: rest))) := by
  subst hq
  exact .step (fun _ t => XS.ifNo X.here C.1 rfl (hb C.2 hd) rfl hc t) k
theorem o_icmpY (C : Cx p c code) (X : Stand p l e R s m args below meth c T locs cells slots) {cd : ClassFile.Cond} {o : Int} {x y : Int32} (hd : decode code pc = .ok (.if_icmp cd o, 3)) (q : Nat) (ho : 0 ≤ (pc : Int) + o) (hq : ((pc : Int) + o).toNat = q) (hc : if_icmp.holds cd x y = true) (k : Ends p e below s Q K N (T.setTop (mkF m q Ls rest))) : Ends p e below s Q K N (T.setTop (mkF m pc Ls (.int y :: .int x :: rest))) := by
  exact .step (fun _ t => XS.icmpYes X.here C.1 rfl (pc0 := pc) rfl (hb C.2 hd) rfl hc ho hq t) k
theorem o_icmpN (C : Cx p c code) (X : Stand p l e R s m args below meth c T locs cells slots) {cd : ClassFile.Cond} {o : Int} {x y : Int32} (hd : decode code pc = .ok (.if_icmp cd o, 3)) (q : Nat) (hq : pc + 3 = q) (hc : if_icmp.holds cd x y = false) (k : Ends p e below s Q K N (T.setTop (mkF m q Ls rest))) : Ends p e below s Q K N (T.setTop (mkF m pc Ls (.int y :: .int x :: rest))) := by
  subst hq
  exact .step (fun _ t => XS.icmpNo X.here C.1 rfl (hb C.2 hd) rfl hc t) k
theorem o_tlt {x y : Int64} (h : x < y) : ifCond.holds .lt (cmpL x y) = true ∧ ifCond.holds .ge (cmpL x y) = false := by
  have := (lw_lt x y).mpr h
  simp only [if0]; exact ⟨(tlt this).1, (tlt this).2.1⟩
theorem o_flt {x y : Int64} (h : ¬ x < y) : ifCond.holds .lt (cmpL x y) = false ∧ ifCond.holds .ge (cmpL x y) = true := by
  have := fun q => h ((lw_lt x y).mp q)
  simp only [if0]; exact ⟨(flt this).1, (flt this).2.1⟩
theorem o_tgt {x y : Int64} (h : y < x) : ifCond.holds .gt (cmpL x y) = true ∧ ifCond.holds .le (cmpL x y) = false := by
  have := (lw_gt x y).mpr h
  simp only [if0]; exact ⟨(tlt this).2.2.1, (tlt this).2.2.2⟩
theorem o_fgt {x y : Int64} (h : ¬ y < x) : ifCond.holds .gt (cmpL x y) = false ∧ ifCond.holds .le (cmpL x y) = true := by
  have := fun q => h ((lw_gt x y).mp q)
  simp only [if0]; exact ⟨(flt this).2.2.1, (flt this).2.2.2⟩
theorem o_teq {x y : Int64} (h : x = y) : ifCond.holds .eq (cmpL x y) = true ∧ ifCond.holds .ne (cmpL x y) = false := by
  have := (lw_eq x y).mpr h
  simp only [if0]; exact ⟨(teq this).1, (teq this).2⟩
theorem o_feq {x y : Int64} (h : ¬ x = y) : ifCond.holds .eq (cmpL x y) = false ∧ ifCond.holds .ne (cmpL x y) = true := by
  have := fun q => h ((lw_eq x y).mp q)
  simp only [if0]; exact ⟨(feq this).1, (feq this).2⟩
theorem o_ldcI (C : Cx p c code) (X : Stand p l e R s m args below meth c T locs cells slots) (hZ : Z.Warmed39 s.vm) {own : String} {index : Nat} {v : Int32} (hown : s.vm.findClass own = some m.cls) (w : (Jvm.Cond.constant own index v).before a0 Z = true) (hd : decode code pc = .ok (.ldc index, 2)) (q : Nat) (hq : pc + 2 = q) (k : Ends p e below s Q K N (T.setTop (mkF m q Ls (.int v :: rest)))) : Ends p e below s Q K N (T.setTop (mkF m pc Ls rest)) := by
  subst hq
  exact .step (fun _ t => X.ldcI C.1 hown (mvT hZ w) (g := mkF m pc Ls rest) rfl (hb C.2 hd) t) k
theorem o_ldc2J (C : Cx p c code) (X : Stand p l e R s m args below meth c T locs cells slots) (hZ : Z.Warmed39 s.vm) {own : String} {index : Nat} {v : Int64} (hown : s.vm.findClass own = some m.cls) (w : (Jvm.Cond.constantLong own index v).before a0 Z = true) (hd : decode code pc = .ok (.ldc2_w index, 3)) (q : Nat) (hq : pc + 3 = q) (k : Ends p e below s Q K N (T.setTop (mkF m q Ls (.long v :: rest)))) : Ends p e below s Q K N (T.setTop (mkF m pc Ls rest)) := by
  subst hq
  exact .step (fun _ t => X.ldc2J C.1 hown (mvT hZ w) (g := mkF m pc Ls rest) rfl (hb C.2 hd) t) k
theorem o_retI (C : Cx p c code) (X : Stand p l e R s m args below meth c T locs cells slots) {z : Int32} (hret : meth.sig.returnType = some .int) (hlk : meth.locks = false) (hd : decode code pc = .ok (.ireturn, 1)) (hQ : Q (some (.int z)) T.heap locs) (hK : cells ≤ K) (hN : slots ≤ N) : Ends p e below s Q K N (T.setTop (mkF m pc Ls (.int z :: rest))) := by
  obtain ⟨fs, hr, hrun, hended, hW, hsame⟩ := X.leave (v := (some (.int z))) (fun h => by rw [hret] at h; cases h) hlk
  exact ⟨_, _, retOut X C.1 hret rfl (Or.inl ⟨rfl, Or.inl rfl, z, rfl⟩) (hb C.2 hd) hr, hrun, hended, _, _, rfl, hQ, ⟨_, rfl⟩, hW, hsame.mono hK hN⟩
theorem o_retN (C : Cx p c code) (X : Stand p l e R s m args below meth c T locs cells slots) {z : Int32} {t : FieldType} (hret : meth.sig.returnType = some t) (ht : t = .boolean ∨ t = .byte ∨ t = .char ∨ t = .short) (hlk : meth.locks = false) (hd : decode code pc = .ok (.ireturn, 1)) (hQ : Q (some (.int (nar t z))) T.heap locs) (hK : cells ≤ K) (hN : slots ≤ N) : Ends p e below s Q K N (T.setTop (mkF m pc Ls (.int z :: rest))) := by
  obtain ⟨fs, hr, hrun, hended, hW, hsame⟩ := X.leave (v := (some (.int (nar t z)))) (fun h => by rw [hret] at h; cases h) hlk
  exact ⟨_, _, retN X C.1 hret ht (hb C.2 hd) hr, hrun, hended, _, _, rfl, hQ, ⟨_, rfl⟩, hW, hsame.mono hK hN⟩
theorem o_retJ (C : Cx p c code) (X : Stand p l e R s m args below meth c T locs cells slots) {z : Int64} (hret : meth.sig.returnType = some .long) (hlk : meth.locks = false) (hd : decode code pc = .ok (.lreturn, 1)) (hQ : Q (some (.long z)) T.heap locs) (hK : cells ≤ K) (hN : slots ≤ N) : Ends p e below s Q K N (T.setTop (mkF m pc Ls (.long z :: rest))) := by
  obtain ⟨fs, hr, hrun, hended, hW, hsame⟩ := X.leave (v := (some (.long z))) (fun h => by rw [hret] at h; cases h) hlk
  exact ⟨_, _, retOut X C.1 hret rfl (Or.inr (Or.inl ⟨rfl, rfl, z, rfl⟩)) (hb C.2 hd) hr, hrun, hended, _, _, rfl, hQ, ⟨_, rfl⟩, hW, hsame.mono hK hN⟩
theorem o_retA (C : Cx p c code) (X : Stand p l e R s m args below meth c T locs cells slots) {z : Addr} {t : FieldType} (hret : meth.sig.returnType = some t) (ht : t.isReference = true) (hlk : meth.locks = false) (hd : decode code pc = .ok (.areturn, 1)) (hQ : Q (some (.ref z)) T.heap locs) (hK : cells ≤ K) (hN : slots ≤ N) : Ends p e below s Q K N (T.setTop (mkF m pc Ls (.ref z :: []))) := by
  obtain ⟨fs, hr, hrun, hended, hW, hsame⟩ := X.leave (v := (some (.ref z))) (fun h => by rw [hret] at h; cases h) hlk
  exact ⟨_, _, X.areturnOut C.1 rfl hret ht (hb C.2 hd) hr, hrun, hended, _, _, rfl, hQ, ⟨_, rfl⟩, hW, hsame.mono hK hN⟩
theorem o_ret (C : Cx p c code) (X : Stand p l e R s m args below meth c T locs cells slots) (hret : meth.sig.returnType = none) (hlk : meth.locks = false) (hd : decode code pc = .ok (.return_, 1)) (hQ : Q none T.heap locs) (hK : cells ≤ K) (hN : slots ≤ N) : Ends p e below s Q K N (T.setTop (mkF m pc Ls [])) := by
  obtain ⟨fs, hr, hrun, hended, hW, hsame⟩ := X.leave (v := none) (fun _ => rfl) hlk
  exact ⟨_, _, X.returnOut C.1 hret (hb C.2 hd) hr, hrun, hended, _, _, rfl, hQ, ⟨_, rfl⟩, hW, hsame.mono hK hN⟩
theorem o_callS (C : Cx p c code) (X : Stand p l e R s m args below meth c T locs cells slots) (hZ : Z.Warmed39 s.vm) (hml : c.maxLocals = Ls.size) {own : String} {index : Nat} {y : MethodName} {bytes : ByteArray} {maxL : Nat} {ret : Option FieldType} {rm : Room} {Qc : Option Value → Heap → List Loc → Prop} (hown : s.vm.findClass own = some m.cls)
    (w1 : (Jvm.Cond.methodLink own index y).before a0 Z = true) (w2 : (Jvm.Cond.static y).before a0 Z = true) (w3 : (Jvm.Cond.initialized y.cls).before a0 Z = true) (w4 : (Jvm.Cond.code y bytes maxL ret).before a0 Z = true) (hy : y.cls ≠ "java/lang/invoke/MethodHandle" ∧ y.cls ≠ "java/lang/invoke/VarHandle")
    {asL st : List Value} (hM : Con l Z y bytes maxL ret rm rm.cells rm.slots [] asL.toArray h Qc) (eT : T.heap = h) {ps : List FieldType} {rt : Option FieldType} (pd : parseMethodDescriptor y.desc = some ⟨ps, rt⟩) (hlen : asL.length = ps.length) (hst : st = asL.reverse ++ rest) (W : Nat) (hW : (rest.map fun v => v.category).sum ≤ W) (hf : rm.frames + 1 ≤ R.frames) (hl : W + (maxL + 11) + rm.locals ≤ R.locals) (hcl : cells + rm.cells ≤ R.cells) (hsl : slots + rm.slots ≤ R.slots)
    (hd : decode code pc = .ok (.invokestatic index, 3)) (q : Nat) (hq : pc + 3 = q) (k : ∀ (T' : State) (h' : Heap) (v : Option Value) (L : List Loc), Stand p l e R s m args below meth c T' (locs ++ L) (cells + rm.cells) (slots + rm.slots) → T'.heap = h' → Qc v h' L → Ends p e below s Q K N (T'.setTop (mkF m q Ls (v.toList ++ rest)))) : Ends p e below s Q K N (T.setTop (mkF m pc Ls st)) := by
  subst hq hst
  obtain ⟨v, _, ⟨T', L', k', n'⟩, -, X', ⟨Lc, hQ, rfl, rfl, rfl⟩, st⟩ := Jvm.LawKit.callS X C.1 (y := y) hown (mvT hZ w1) (mvT hZ w2) (mvT hZ w3) (mvT hZ w4) hy (backOf (W := W) hM hZ w4 w3 hf hl) (g := mkF m pc Ls (asL.reverse ++ rest)) rfl hml.symm (argsL := asL) (rest := rest) (lenOf pd hlen) rfl (by show 2 * 0 + _ ≤ _; omega) (hb C.2 hd) (fun _ _ => ⟨rfl, eT, hcl, hsl⟩)
  exact .step st (k T' _ v Lc X' rfl hQ)
theorem o_callI (C : Cx p c code) (X : Stand p l e R s m args below meth c T locs cells slots) (hZ : Z.Warmed39 s.vm) (hml : c.maxLocals = Ls.size) {own : String} {index : Nat} {y : MethodName} {bytes : ByteArray} {maxL : Nat} {rm : Room} {Qc : Option Value → Heap → List Loc → Prop} (hown : s.vm.findClass own = some m.cls) (hy1 : y.name = "<init>")
    (w1 : (Jvm.Cond.methodLink own index y).before a0 Z = true) (w2 : (Jvm.Cond.instanceMethod y).before a0 Z = true) (w3 : (Jvm.Cond.initialized y.cls).before a0 Z = true) (w4 : (Jvm.Cond.code y bytes maxL none).before a0 Z = true) (hy : y.cls ≠ "java/lang/invoke/MethodHandle" ∧ y.cls ≠ "java/lang/invoke/VarHandle")
    {asL st : List Value} {a : Addr} (hM : Con l Z y bytes maxL none rm rm.cells rm.slots [] (.ref a :: asL).toArray h Qc) (eT : T.heap = h) {ps : List FieldType} {rt : Option FieldType} (pd : parseMethodDescriptor y.desc = some ⟨ps, rt⟩) (hlen : asL.length = ps.length) (hst : st = asL.reverse ++ .ref a :: rest) (W : Nat) (hW : (rest.map fun v => v.category).sum ≤ W) (hf : rm.frames + 1 ≤ R.frames) (hl : W + (maxL + 11) + rm.locals ≤ R.locals) (hcl : cells + rm.cells ≤ R.cells) (hsl : slots + rm.slots ≤ R.slots)
    (hd : decode code pc = .ok (.invokespecial index, 3)) (q : Nat) (hq : pc + 3 = q) (k : ∀ (T' : State) (h' : Heap) (v : Option Value) (L : List Loc), Stand p l e R s m args below meth c T' (locs ++ L) (cells + rm.cells) (slots + rm.slots) → T'.heap = h' → Qc v h' L → Ends p e below s Q K N (T'.setTop (mkF m q Ls (v.toList ++ rest)))) : Ends p e below s Q K N (T.setTop (mkF m pc Ls st)) := by
  subst hq hst
  obtain ⟨v, _, ⟨T', L', k', n'⟩, -, X', ⟨Lc, hQ, rfl, rfl, rfl⟩, st⟩ := X.specialBack C.1 (y := y) hy1 hown (mvT hZ w1) (mvT hZ w2) (mvT hZ w4) hy (backOf (W := W) hM hZ w4 w3 hf hl) (g := mkF m pc Ls (asL.reverse ++ .ref a :: rest)) rfl hml.symm (Steps.refl _) (a := a) (argsL := asL) (rest := rest) (lenOf pd hlen) rfl (by show 2 * 0 + _ ≤ _; omega) (hb C.2 hd) (fun _ _ => ⟨rfl, eT, hcl, hsl⟩)
  exact .step (fun _ t => st.trans t) (k T' _ v Lc X' rfl hQ)
theorem o_callV (C : Cx p c code) (X : Stand p l e R s m args below meth c T locs cells slots) (hZ : Z.Warmed39 s.vm) (hml : c.maxLocals = Ls.size) {own : String} {index : Nat} {y : MethodName} {bytes : ByteArray} {maxL : Nat} {ret : Option FieldType} {rm : Room} {Qc : Option Value → Heap → List Loc → Prop} (hown : s.vm.findClass own = some m.cls)
    (w1 : (Jvm.Cond.methodLink own index y).before a0 Z = true) (w2 : (Jvm.Cond.declares y).before a0 Z = true) (w5 : (Jvm.Cond.selects y.cls y y).before a0 Z = true) (w6 : (Jvm.Cond.instanceMethod y).before a0 Z = true) (w3 : (Jvm.Cond.initialized y.cls).before a0 Z = true) (w4 : (Jvm.Cond.code y bytes maxL ret).before a0 Z = true) (hy : y.cls ≠ "java/lang/invoke/MethodHandle" ∧ y.cls ≠ "java/lang/invoke/VarHandle")
    {asL st : List Value} {a : Addr} (hM : Con l Z y bytes maxL ret rm rm.cells rm.slots [] (.ref a :: asL).toArray h Qc) (eT : T.heap = h) (E : Exa Z h a y.cls) {ps : List FieldType} {rt : Option FieldType} (pd : parseMethodDescriptor y.desc = some ⟨ps, rt⟩) (hlen : asL.length = ps.length) (hst : st = asL.reverse ++ .ref a :: rest) (W : Nat) (hW : (rest.map fun v => v.category).sum ≤ W) (hf : rm.frames + 1 ≤ R.frames) (hl : W + (maxL + 11) + rm.locals ≤ R.locals) (hcl : cells + rm.cells ≤ R.cells) (hsl : slots + rm.slots ≤ R.slots)
    (hd : decode code pc = .ok (.invokevirtual index, 3)) (q : Nat) (hq : pc + 3 = q) (k : ∀ (T' : State) (h' : Heap) (v : Option Value) (L : List Loc), Stand p l e R s m args below meth c T' (locs ++ L) (cells + rm.cells) (slots + rm.slots) → T'.heap = h' → Qc v h' L → Ends p e below s Q K N (T'.setTop (mkF m q Ls (v.toList ++ rest)))) : Ends p e below s Q K N (T.setTop (mkF m pc Ls st)) := by
  subst hq hst
  obtain ⟨cq, kq, qa, qb, qc⟩ := isOf hZ eT E
  obtain ⟨v, _, ⟨T', L', k', n'⟩, -, X', ⟨Lc, hQ, rfl, rfl, rfl⟩, st⟩ := X.virtualBack C.1 (y := y) (z := y) hown (mvT hZ w1) (mvT hZ w2) (notFace_of_selects (args := #[]) (mvT hZ w5)) (mvT hZ w5) (mvT hZ w6) hy (backOf (W := W) hM hZ w4 w3 hf hl) qa qc (g := mkF m pc Ls (asL.reverse ++ .ref a :: rest)) rfl hml.symm (Steps.refl _) (argsL := asL) (rest := rest) (lenOf pd hlen) rfl (by show 2 * 0 + _ ≤ _; omega) (hb C.2 hd) (fun _ _ => ⟨rfl, eT, hcl, hsl⟩)
  exact .step (fun _ t => st.trans t) (k T' _ v Lc X' rfl hQ)
theorem Ends.via {T0 : State} (F : JFrame) (k1 : Ends p e below s Q K N (T.setTop F) → Ends p e below s Q K N T0) (k2 : Ends p e below s Q K N (T.setTop F)) : Ends p e below s Q K N T0 := k1 k2
/-- what a callee that writes and makes nothing says: its value, the heap as it was -/
def PQ (v0 : Value) (h : Heap) : Option Value → Heap → List Loc → Prop := fun v h' L => v = some v0 ∧ L = [] ∧ h' = h
theorem o_callP (C : Cx p c code) (X : Stand p l e R s m args below meth c T locs cells slots) (hZ : Z.Warmed39 s.vm) (hml : c.maxLocals = Ls.size) {own : String} {index : Nat} {y : MethodName} {bytes : ByteArray} {maxL : Nat} {ret : Option FieldType} {rf rl : Nat} {v0 : Value} (hown : s.vm.findClass own = some m.cls)
    (w1 : (Jvm.Cond.methodLink own index y).before a0 Z = true) (w2 : (Jvm.Cond.static y).before a0 Z = true) (w3 : (Jvm.Cond.initialized y.cls).before a0 Z = true) (w4 : (Jvm.Cond.code y bytes maxL ret).before a0 Z = true) (hy : y.cls ≠ "java/lang/invoke/MethodHandle" ∧ y.cls ≠ "java/lang/invoke/VarHandle")
    {asL st : List Value} (hM : Con l Z y bytes maxL ret { frames := rf, cells := 0, slots := 0, locals := rl } 0 0 [] asL.toArray h (PQ v0 h)) (eT : T.heap = h) {ps : List FieldType} {rt : Option FieldType} (pd : parseMethodDescriptor y.desc = some ⟨ps, rt⟩) (hlen : asL.length = ps.length) (hst : st = asL.reverse ++ rest) (W : Nat) (hW : (rest.map fun v => v.category).sum ≤ W) (hf : rf + 1 ≤ R.frames) (hl : W + (maxL + 11) + rl ≤ R.locals) (hcl : cells ≤ R.cells) (hsl : slots ≤ R.slots)
    (hd : decode code pc = .ok (.invokestatic index, 3)) (q : Nat) (hq : pc + 3 = q) (k : ∀ (T' : State), Stand p l e R s m args below meth c T' locs cells slots → T'.heap = h → Ends p e below s Q K N (T'.setTop (mkF m q Ls (v0 :: rest)))) : Ends p e below s Q K N (T.setTop (mkF m pc Ls st)) := by
  refine o_callS C X hZ hml hown w1 w2 w3 w4 hy (rm := { frames := rf, cells := 0, slots := 0, locals := rl }) hM eT pd hlen hst W hW hf hl hcl hsl hd q hq ?_
  intro T' h' v L X' e' hq
  obtain ⟨rfl, rfl, hh⟩ := hq
  rw [List.append_nil] at X'
  exact k T' X' (e'.trans hh)
theorem o_callVP (C : Cx p c code) (X : Stand p l e R s m args below meth c T locs cells slots) (hZ : Z.Warmed39 s.vm) (hml : c.maxLocals = Ls.size) {own : String} {index : Nat} {y : MethodName} {bytes : ByteArray} {maxL : Nat} {ret : Option FieldType} {rf rl : Nat} {v0 : Value} (hown : s.vm.findClass own = some m.cls)
    (w1 : (Jvm.Cond.methodLink own index y).before a0 Z = true) (w2 : (Jvm.Cond.declares y).before a0 Z = true) (w5 : (Jvm.Cond.selects y.cls y y).before a0 Z = true) (w6 : (Jvm.Cond.instanceMethod y).before a0 Z = true) (w3 : (Jvm.Cond.initialized y.cls).before a0 Z = true) (w4 : (Jvm.Cond.code y bytes maxL ret).before a0 Z = true) (hy : y.cls ≠ "java/lang/invoke/MethodHandle" ∧ y.cls ≠ "java/lang/invoke/VarHandle")
    {asL st : List Value} {a : Addr} (hM : Con l Z y bytes maxL ret { frames := rf, cells := 0, slots := 0, locals := rl } 0 0 [] (.ref a :: asL).toArray h (PQ v0 h)) (eT : T.heap = h) (E : Exa Z h a y.cls) {ps : List FieldType} {rt : Option FieldType} (pd : parseMethodDescriptor y.desc = some ⟨ps, rt⟩) (hlen : asL.length = ps.length) (hst : st = asL.reverse ++ .ref a :: rest) (W : Nat) (hW : (rest.map fun v => v.category).sum ≤ W) (hf : rf + 1 ≤ R.frames) (hl : W + (maxL + 11) + rl ≤ R.locals) (hcl : cells ≤ R.cells) (hsl : slots ≤ R.slots)
    (hd : decode code pc = .ok (.invokevirtual index, 3)) (q : Nat) (hq : pc + 3 = q) (k : ∀ (T' : State), Stand p l e R s m args below meth c T' locs cells slots → T'.heap = h → Ends p e below s Q K N (T'.setTop (mkF m q Ls (v0 :: rest)))) : Ends p e below s Q K N (T.setTop (mkF m pc Ls st)) := by
  refine o_callV C X hZ hml hown w1 w2 w5 w6 w3 w4 hy (rm := { frames := rf, cells := 0, slots := 0, locals := rl }) hM eT E pd hlen hst W hW hf hl hcl hsl hd q hq ?_
  intro T' h' v L X' e' hq
  obtain ⟨rfl, rfl, hh⟩ := hq
  rw [List.append_nil] at X'
  exact k T' X' (e'.trans hh)
theorem o_new (C : Cx p c code) (X : Stand p l e R s m args below meth c T locs cells slots) (hZ : Z.Warmed39 s.vm) {own Cn : String} {index n : Nat} (hown : s.vm.findClass own = some m.cls) (w : (Jvm.Cond.classLink own index Cn).before a0 Z = true) (wi : (Jvm.Cond.instantiable Cn n).before a0 Z = true) (wz : (Jvm.Cond.initialized Cn).before a0 Z = true) (eT : T.heap = h) (hd : decode code pc = .ok (.new index, 3)) (hc : cells + 1 ≤ R.cells) (hl : slots + n ≤ R.slots) (q : Nat) (hq : pc + 3 = q)
    (k : ∀ (T' : State) (h' : Heap) (a : Addr), a = h.size → Stand p l e R s m args below meth c T' locs (cells + 1) (slots + n) → T'.heap = h' → Ext h h' → Exa Z h' a Cn → (∀ {O nm d : String} {ty : FieldType}, Laid Z a0 Cn O nm d → parseFieldDescriptor d = some ty → Fld Z h' a O nm d (defaultValue ty)) → Ends p e below s Q K N (T'.setTop (mkF m q Ls (.ref a :: rest)))) : Ends p e below s Q K N (T.setTop (mkF m pc Ls rest)) := by
  subst hq
  obtain ⟨T', h', X', e', E, A, D, -, st⟩ := newO X C.1 hZ hown w wi wz eT (g := mkF m pc Ls rest) rfl (hb C.2 hd) hc hl
  exact .step st (k T' h' _ rfl X' e' E A D)
theorem o_getF (C : Cx p c code) (X : Stand p l e R s m args below meth c T locs cells slots) (hZ : Z.Warmed39 s.vm) {own R0 O n d : String} {index : Nat} (hown : s.vm.findClass own = some m.cls) (w : (Jvm.Cond.fieldLink own index R0 n d).before a0 Z = true) (via : Via Z R0 O n d) (eT : T.heap = h) {a : Addr} {v : Value} (F : Fld Z h a O n d v) (hd : decode code pc = .ok (.getfield index, 3)) (q : Nat) (hq : pc + 3 = q)
    (k : ∀ (T' : State), Stand p l e R s m args below meth c T' locs cells slots → T'.heap = h → Ends p e below s Q K N (T'.setTop (mkF m q Ls (v :: rest)))) : Ends p e below s Q K N (T.setTop (mkF m pc Ls (.ref a :: rest))) := by
  subst hq
  obtain ⟨T', X', e', st⟩ := getF X C.1 hZ hown (host := "") (Or.inl w) via eT F (g := mkF m pc Ls (.ref a :: rest)) rfl rfl (hb C.2 hd)
  exact .step st (k T' X' e')
theorem o_putF (C : Cx p c code) (X : Stand p l e R s m args below meth c T locs cells slots) (hZ : Z.Warmed39 s.vm) {own R0 O n d Cn : String} {index kk : Nat} {ty : FieldType} (hown : s.vm.findClass own = some m.cls) (w : (Jvm.Cond.fieldLink own index R0 n d).before a0 Z = true) (via : Via Z R0 O n d) (eT : T.heap = h) {a : Addr} {v old : Value} (F : Fld Z h a O n d old) (E : Exa Z h a Cn) (L : (Jvm.Cond.lays Cn O n d).before a0 Z = true ∨ ((Jvm.Cond.laysFinal Cn O n d).before a0 Z = true ∧ own = O ∧ meth.name = "<init>")) (wi : (Jvm.Cond.instantiable Cn kk).before a0 Z = true) (hty : parseFieldDescriptor d = some ty) (hn : narrow ty v = v) (hf : fits ty v = true) (hd : decode code pc = .ok (.putfield index, 3)) (q : Nat) (hq : pc + 3 = q) {n0 : Nat} (N0 : Fr n0 locs) (ha : n0 ≤ a)
    (k : ∀ (T' : State) (h' : Heap) (locs' : List Loc), Stand p l e R s m args below meth c T' locs' cells slots → T'.heap = h' → Wr h h' a (Jvm.RoadKit.slotOf Z O n d) v → Fr n0 locs' → Ends p e below s Q K N (T'.setTop (mkF m q Ls rest))) : Ends p e below s Q K N (T.setTop (mkF m pc Ls (v :: .ref a :: rest))) := by
  subst hq
  obtain ⟨T', h', X', e', W, st⟩ := putF X C.1 hZ hown (host := "") (Or.inl w) via eT F E L wi hty hn hf (g := mkF m pc Ls (v :: .ref a :: rest)) rfl rfl (hb C.2 hd)
  exact .step st (k T' h' _ X' e' W (Fr.snoc X' N0 ha))
/-- the array at a has n places; the place j holds the int f j -/
def AI (Z : State) (h : Heap) (a : Addr) (ty : FieldType) (n : Nat) (f : Nat → Int32) : Prop := ∃ cl : Cell, Arr Z h a cl ty ∧ cl.slots.size = n ∧ n < 2 ^ 31 ∧ ∀ j, j < n → cl.slots[j]? = some (.int (f j))
theorem AI.lt {a : Addr} {ty : FieldType} {n : Nat} {f : Nat → Int32} (A : AI Z h a ty n f) : a < h.size := by
  obtain ⟨cl, A, -⟩ := A; exact A.lt
theorem AI.ext {h' : Heap} {a : Addr} {ty : FieldType} {n : Nat} {f : Nat → Int32} (A : AI Z h a ty n f) (E : Ext h h') : AI Z h' a ty n f := by
  obtain ⟨cl, A, B⟩ := A; exact ⟨cl, A.ext E, B⟩
theorem AI.other {h' : Heap} {a b : Addr} {ty : FieldType} {n sl : Nat} {v : Value} {f : Nat → Int32} (A : AI Z h b ty n f) (W : Wr h h' a sl v) (q : b ≠ a) : AI Z h' b ty n f := by
  obtain ⟨cl, A, B⟩ := A; exact ⟨cl, A.other W q, B⟩
theorem AI.keep {h' : Heap} {a : Addr} {ty : FieldType} {n : Nat} {f : Nat → Int32} {ws : List Addr} (A : AI Z h a ty n f) (k : Keep h h' ws) (q : a ∉ ws) : AI Z h' a ty n f := by
  obtain ⟨cl, ⟨A1, A2⟩, B⟩ := A; exact ⟨cl, ⟨k.2.1 _ _ A1 q, A2⟩, B⟩
theorem AI.wr {h' : Heap} {a : Addr} {ty : FieldType} {n i : Nat} {v : Int32} {f : Nat → Int32} (A : AI Z h a ty n f) (W : Wr h h' a i (.int v)) (hi : i < n) : AI Z h' a ty n (fun j => if j = i then v else f j) := by
  obtain ⟨cl, A, S, M, B⟩ := A
  refine ⟨_, A.same W, by rw [sz_set]; exact S, M, fun j hj => ?_⟩
  show (cl.slots.setIfInBounds i (.int v))[j]? = _
  rw [Array.getElem?_setIfInBounds]
  by_cases q : i = j
  · subst q; rw [if_pos rfl, if_pos (by rw [S]; exact hi)]; dsimp only; rw [if_pos rfl]
  · rw [if_neg q, B j hj]; dsimp only; rw [if_neg (fun r => q r.symm)]
theorem AI.congr {a : Addr} {ty : FieldType} {n : Nat} {f g : Nat → Int32} (A : AI Z h a ty n f) (q : ∀ j, j < n → f j = g j) : AI Z h a ty n g := by
  obtain ⟨cl, A, S, M, B⟩ := A
  exact ⟨cl, A, S, M, fun j hj => by rw [B j hj, q j hj]⟩
theorem AI.ne {a b : Addr} {ty : FieldType} {n : Nat} {f : Nat → Int32} (A : AI Z h a ty n f) (q : b = h.size) : a ≠ b := fun r => by
  have := A.lt; rw [r, q] at this; exact Nat.lt_irrefl _ this
theorem own_idx {m : Nat} {j : Int32} {i n : Nat} (hj : j.toInt = i) (hi : i < n) (S : m = n) : ¬ (j < 0 ∨ m ≤ j.toNatClampNeg) ∧ j.toNatClampNeg = i := by
  have e1 : j.toNatClampNeg = i := by rw [Int32.toNatClampNeg, hj]; rfl
  refine ⟨?_, e1⟩
  rw [e1, S, Int32.lt_iff_toInt_lt, hj, show (0 : Int32).toInt = 0 from rfl]
  omega
theorem o_iaload (C : Cx p c code) (X : Stand p l e R s m args below meth c T locs cells slots) (hZ : Z.Warmed39 s.vm) (eT : T.heap = h) {a : Addr} {n : Nat} {f : Nat → Int32} (A : AI Z h a .int n f) {j : Int32} (i : Nat) (hj : j.toInt = i) (hi : i < n) (hd : decode code pc = .ok (.iaload, 1)) (q : Nat) (hq : pc + 1 = q) (k : Ends p e below s Q K N (T.setTop (mkF m q Ls (.int (f i) :: rest)))) : Ends p e below s Q K N (T.setTop (mkF m pc Ls (.int j :: .ref a :: rest))) := by
  subst hq
  obtain ⟨cl, A, S, M, B⟩ := A
  obtain ⟨q1, q2⟩ := own_idx hj hi S
  exact .step (fun t kt => X.iaload C.1 (j := j) (v := .int (f i)) (by rw [eT]; exact A.1) (State.isArrayOf_alike hZ.alike A.2.1) A.2.2 q1 (by rw [q2]; exact B i hi) (g := mkF m pc Ls (.int j :: .ref a :: rest)) rfl rfl (hb C.2 hd) t kt) k
theorem o_baload (C : Cx p c code) (X : Stand p l e R s m args below meth c T locs cells slots) (hZ : Z.Warmed39 s.vm) (eT : T.heap = h) {a : Addr} {n : Nat} {f : Nat → Int32} (A : AI Z h a .byte n f) {j : Int32} (i : Nat) (hj : j.toInt = i) (hi : i < n) (hd : decode code pc = .ok (.baload, 1)) (q : Nat) (hq : pc + 1 = q) (k : Ends p e below s Q K N (T.setTop (mkF m q Ls (.int (f i) :: rest)))) : Ends p e below s Q K N (T.setTop (mkF m pc Ls (.int j :: .ref a :: rest))) := by
  subst hq
  obtain ⟨cl, A, S, M, B⟩ := A
  obtain ⟨q1, q2⟩ := own_idx hj hi S
  exact .step (fun t kt => X.baloadBytes C.1 (j := j) (v := .int (f i)) (by rw [eT]; exact A.1) (State.isArrayOf_alike hZ.alike A.2.1) A.2.2 q1 (by rw [q2]; exact B i hi) (g := mkF m pc Ls (.int j :: .ref a :: rest)) rfl rfl (hb C.2 hd) t kt) k
theorem o_arraylength (C : Cx p c code) (X : Stand p l e R s m args below meth c T locs cells slots) (hZ : Z.Warmed39 s.vm) (eT : T.heap = h) {a : Addr} {ty : FieldType} {n : Nat} {f : Nat → Int32} (A : AI Z h a ty n f) (v : Int32) (hv : n.toInt32 = v) (hd : decode code pc = .ok (.arraylength, 1)) (q : Nat) (hq : pc + 1 = q) (k : Ends p e below s Q K N (T.setTop (mkF m q Ls (.int v :: rest)))) : Ends p e below s Q K N (T.setTop (mkF m pc Ls (.ref a :: rest))) := by
  subst hq hv
  obtain ⟨cl, A, rfl, M, B⟩ := A
  exact .step (fun t kt => X.arraylength C.1 (by rw [eT]; exact A.1) (State.isArrayOf_alike hZ.alike A.2.1) (g := mkF m pc Ls (.ref a :: rest)) rfl (rest := rest) rfl (hb C.2 hd) t kt) k
theorem o_iastore (C : Cx p c code) (X : Stand p l e R s m args below meth c T locs cells slots) (hZ : Z.Warmed39 s.vm) (eT : T.heap = h) {a : Addr} {n : Nat} {f : Nat → Int32} (A : AI Z h a .int n f) {j x : Int32} (i : Nat) (hj : j.toInt = i) (hi : i < n) (hd : decode code pc = .ok (.iastore, 1)) (q : Nat) (hq : pc + 1 = q) {n0 : Nat} (N0 : Fr n0 locs) (ha : n0 ≤ a)
    (k : ∀ (T' : State) (h' : Heap) (locs' : List Loc), Stand p l e R s m args below meth c T' locs' cells slots → T'.heap = h' → Wr h h' a i (.int x) → Fr n0 locs' → AI Z h' a .int n (fun j => if j = i then x else f j) → Ends p e below s Q K N (T'.setTop (mkF m q Ls rest))) : Ends p e below s Q K N (T.setTop (mkF m pc Ls (.int x :: .int j :: .ref a :: rest))) := by
  subst hq
  obtain ⟨cl, A', S, M, B⟩ := A
  obtain ⟨q1, q2⟩ := own_idx hj hi S
  obtain ⟨T', h', X', e', W, st⟩ := stI X C.1 hZ eT A' (j := j) (x := x) q1 (g := mkF m pc Ls (.int x :: .int j :: .ref a :: rest)) rfl rfl (hb C.2 hd)
  rw [q2] at W
  exact .step st (k T' h' _ X' e' W (Fr.snoc X' N0 ha) (AI.wr ⟨cl, A', S, M, B⟩ W hi))
theorem o_bastore (C : Cx p c code) (X : Stand p l e R s m args below meth c T locs cells slots) (hZ : Z.Warmed39 s.vm) (eT : T.heap = h) {a : Addr} {n : Nat} {f : Nat → Int32} (A : AI Z h a .byte n f) {j x : Int32} (i : Nat) (hj : j.toInt = i) (hi : i < n) (hd : decode code pc = .ok (.bastore, 1)) (q : Nat) (hq : pc + 1 = q) {n0 : Nat} (N0 : Fr n0 locs) (ha : n0 ≤ a)
    (k : ∀ (T' : State) (h' : Heap) (locs' : List Loc), Stand p l e R s m args below meth c T' locs' cells slots → T'.heap = h' → Wr h h' a i (.int (nar .byte x)) → Fr n0 locs' → AI Z h' a .byte n (fun j => if j = i then (nar .byte x) else f j) → Ends p e below s Q K N (T'.setTop (mkF m q Ls rest))) : Ends p e below s Q K N (T.setTop (mkF m pc Ls (.int x :: .int j :: .ref a :: rest))) := by
  subst hq
  obtain ⟨cl, A', S, M, B⟩ := A
  obtain ⟨q1, q2⟩ := own_idx hj hi S
  obtain ⟨T', h', X', e', W, st⟩ := stB X C.1 hZ eT A' (j := j) (x := x) q1 (g := mkF m pc Ls (.int x :: .int j :: .ref a :: rest)) rfl rfl (hb C.2 hd)
  rw [q2] at W
  exact .step st (k T' h' _ X' e' W (Fr.snoc X' N0 ha) (AI.wr ⟨cl, A', S, M, B⟩ W hi))
theorem o_newarrayI (C : Cx p c code) (X : Stand p l e R s m args below meth c T locs cells slots) (hZ : Z.Warmed39 s.vm) (w : (Jvm.Cond.arrayClass .int).before a0 Z = true) (eT : T.heap = h) {z : Int32} (n : Nat) (hz : z.toInt = n) (cap : Nat) (hcap : n ≤ cap) (hb8 : cap * 8 ≤ 536870912) (hc : cells + 1 ≤ R.cells) (hl : slots + cap ≤ R.slots) (hd : decode code pc = .ok (.newarray .int, 2)) (q : Nat) (hq : pc + 2 = q)
    (k : ∀ (T' : State) (h' : Heap) (a : Addr), a = h.size → Stand p l e R s m args below meth c T' locs (cells + 1) (slots + cap) → T'.heap = h' → Ext h h' → AI Z h' a .int n (fun _ => 0) → Ends p e below s Q K N (T'.setTop (mkF m q Ls (.ref a :: rest)))) : Ends p e below s Q K N (T.setTop (mkF m pc Ls (.int z :: rest))) := by
  subst hq
  have hn : ¬ z < 0 := by rw [Int32.lt_iff_toInt_lt, hz, show (0 : Int32).toInt = 0 from rfl]; omega
  have e1 : z.toNatClampNeg = n := by rw [Int32.toNatClampNeg, hz]; rfl
  have hr := Int32.toInt_lt z
  obtain ⟨T', h', cA, X', e', E, A, st⟩ := newP X C.1 hZ (aty := .int) w eT (g := mkF m pc Ls (.int z :: rest)) rfl (hb C.2 hd) (n := z) (rest := rest) rfl hn (cap := cap) (by rw [e1]; exact hcap) hb8 hc hl
  refine .step st (k T' h' _ rfl X' e' E ⟨_, A, by rw [sz_new, e1], by omega, fun j hj => ?_⟩)
  simp only [newA, e1]
  rw [Array.getElem?_replicate, if_pos hj]; rfl
theorem o_newarrayB (C : Cx p c code) (X : Stand p l e R s m args below meth c T locs cells slots) (hZ : Z.Warmed39 s.vm) (w : (Jvm.Cond.arrayClass .byte).before a0 Z = true) (eT : T.heap = h) {z : Int32} (n : Nat) (hz : z.toInt = n) (cap : Nat) (hcap : n ≤ cap) (hb8 : cap * 8 ≤ 536870912) (hc : cells + 1 ≤ R.cells) (hl : slots + cap ≤ R.slots) (hd : decode code pc = .ok (.newarray .byte, 2)) (q : Nat) (hq : pc + 2 = q)
    (k : ∀ (T' : State) (h' : Heap) (a : Addr), a = h.size → Stand p l e R s m args below meth c T' locs (cells + 1) (slots + cap) → T'.heap = h' → Ext h h' → AI Z h' a .byte n (fun _ => 0) → Ends p e below s Q K N (T'.setTop (mkF m q Ls (.ref a :: rest)))) : Ends p e below s Q K N (T.setTop (mkF m pc Ls (.int z :: rest))) := by
  subst hq
  have hn : ¬ z < 0 := by rw [Int32.lt_iff_toInt_lt, hz, show (0 : Int32).toInt = 0 from rfl]; omega
  have e1 : z.toNatClampNeg = n := by rw [Int32.toNatClampNeg, hz]; rfl
  have hr := Int32.toInt_lt z
  obtain ⟨T', h', cA, X', e', E, A, st⟩ := newP X C.1 hZ (aty := .byte) w eT (g := mkF m pc Ls (.int z :: rest)) rfl (hb C.2 hd) (n := z) (rest := rest) rfl hn (cap := cap) (by rw [e1]; exact hcap) hb8 hc hl
  refine .step st (k T' h' _ rfl X' e' E ⟨_, A, by rw [sz_new, e1], by omega, fun j hj => ?_⟩)
  simp only [newA, e1]
  rw [Array.getElem?_replicate, if_pos hj]; rfl
end Own
theorem own_next {v : Int32} {j : Nat} (h : v.toInt = j) (hj : j < 2000) : (v + 1).toInt = ((j + 1 : Nat) : Int) := by
  have := c_iadd v 1
  have r := rng32 (v + 1)
  rw [show (1 : Int32).toInt = 1 from rfl] at this
  omega
theorem nar_i2b (x : Int32) : nar .byte x.toInt8.toInt32 = x.toInt8.toInt32 := by
  show x.toInt8.toInt32.toInt8.toInt32 = _
  rw [Int8.toInt8_toInt32]
theorem nar_nar (x : Int32) : nar .byte (nar .byte x) = nar .byte x := nar_i2b x
theorem d1_0 : decode method_3_code 0 = .ok (.iload_n 0, 1) := by decide +kernel
theorem d1_1 : decode method_3_code 1 = .ok (.iload_n 1, 1) := by decide +kernel
theorem d1_2 : decode method_3_code 2 = .ok (.iushr, 1) := by decide +kernel
theorem d1_3 : decode method_3_code 3 = .ok (.iconst 1, 1) := by decide +kernel
theorem d1_4 : decode method_3_code 4 = .ok (.iand, 1) := by decide +kernel
theorem d1_5 : decode method_3_code 5 = .ok (.ifCond .eq 5, 3) := by decide +kernel
theorem d1_8 : decode method_3_code 8 = .ok (.iload_n 2, 1) := by decide +kernel
theorem d1_9 : decode method_3_code 9 = .ok (.ireturn, 1) := by decide +kernel
theorem d1_10 : decode method_3_code 10 = .ok (.lload_n 3, 1) := by decide +kernel
theorem d1_11 : decode method_3_code 11 = .ok (.bipush 8, 2) := by decide +kernel
theorem d1_13 : decode method_3_code 13 = .ok (.iload 5, 2) := by decide +kernel
theorem d1_15 : decode method_3_code 15 = .ok (.imul, 1) := by decide +kernel
theorem d1_16 : decode method_3_code 16 = .ok (.lushr, 1) := by decide +kernel
theorem d1_17 : decode method_3_code 17 = .ok (.l2i, 1) := by decide +kernel
theorem d1_18 : decode method_3_code 18 = .ok (.i2b, 1) := by decide +kernel
theorem d1_19 : decode method_3_code 19 = .ok (.ireturn, 1) := by decide +kernel
theorem pn_1 : plainFor (⟨"com/example/sagasu/sagasu/WindowFilterMark209PinLaw", "pick", "(IIBJI)B"⟩ : MethodName) = true := by first | exact plainFor_of_name (by first | (simp [plainName, overriddenIn]; done) | decide +kernel) | decide +kernel
theorem ef_1 (m : MethodId) (u0 : Int32) (u1 : Int32) (u2 : Int32) (u3 : Int64) (u4 : Int32) : entryFrame m #[(.int u0), (.int u1), (.int u2), (.long u3), (.int u4)] 6 = (mkF m 0 #[.val (.int u0), .val (.int u1), .val (.int u2), .val (.long u3), .second, .val (.int u4)] []) := by first | (simp [entryFrame, mkF, argsToLocals, Value.category]; done) | rfl
def FC (u0 : Int32) (u1 : Int32) (u2 : Int32) (u3 : Int64) (u4 : Int32) : Int32 := (if ((ushr u0 u1) &&& (1 : Int32)) = (0 : Int32) then (nar .byte (((ushrL u3 ((8 : Int32) * u4)).toInt32).toInt8.toInt32)) else (nar .byte u2))
set_option maxRecDepth 65536 in
set_option maxHeartbeats 40000000 in
theorem rm1 (l : Launch) (Z : State) (a0 : Array Value) (hw : ∀ d ∈ tables_1, d.before a0 Z = true) (u0 : Int32) (u1 : Int32) (u2 : Int32) (u3 : Int64) (u4 : Int32) (h0 : Heap) : Con l Z (⟨"com/example/sagasu/sagasu/WindowFilterMark209PinLaw", "pick", "(IIBJI)B"⟩ : MethodName) method_3_code 6 (some .byte) ({ frames := 0, cells := 0, slots := 0, locals := 0 } : Room) 0 0 [] #[(.int u0), (.int u1), (.int u2), (.long u3), (.int u4)] h0 (PQ (.int (FC u0 u1 u2 u3 u4)) h0) := by
  refine Con.of pn_1 ?_
  intro p e s m below meth c T C hZ hml hown hret hnm hlk X e0
  rw [ef_1]
  refine o_iloadN C X d1_0 1 rfl rfl ?_
  refine o_iloadN C X d1_1 2 rfl rfl ?_
  refine o_iushr C X d1_2 3 rfl ?_
  refine o_iconst C X d1_3 4 rfl (1 : Int32) (by decide) ?_
  refine o_iand C X d1_4 5 rfl ?_
  by_cases q1 : ((ushr u0 u1) &&& (1 : Int32)) = (0 : Int32)
  · skip
    refine o_ifY C X d1_5 10 (by decide) (by decide) ((if0 _ _).trans (teq q1).1) ?_
    refine o_lloadN C X d1_10 11 rfl rfl ?_
    refine o_bipush C X d1_11 13 rfl (8 : Int32) (by decide) ?_
    refine o_iload C X d1_13 15 rfl rfl ?_
    refine o_imul C X d1_15 16 rfl ?_
    refine o_lushr C X d1_16 17 rfl ?_
    refine o_l2i C X d1_17 18 rfl ?_
    refine o_i2b C X d1_18 19 rfl ?_
    refine o_retN C X hret (by simp) hlk d1_19 ⟨congrArg some (congrArg _ (by rw [FC]; simp only [if_pos q1] <;> rfl)), rfl, e0⟩ (Nat.le_refl _) (Nat.le_refl _)
  · skip
    refine o_ifN C X d1_5 8 rfl ((if0 _ _).trans (feq q1).1) ?_
    refine o_iloadN C X d1_8 9 rfl rfl ?_
    refine o_retN C X hret (by simp) hlk d1_9 ⟨congrArg some (congrArg _ (by rw [FC]; simp only [if_neg q1] <;> rfl)), rfl, e0⟩ (Nat.le_refl _) (Nat.le_refl _)
theorem d3_0 : decode method_4_code 0 = .ok (.iload_n 1, 1) := by decide +kernel
theorem d3_1 : decode method_4_code 1 = .ok (.ifCond .ne 15, 3) := by decide +kernel
theorem d3_4 : decode method_4_code 4 = .ok (.iload_n 0, 1) := by decide +kernel
theorem d3_5 : decode method_4_code 5 = .ok (.iload 6, 2) := by decide +kernel
theorem d3_7 : decode method_4_code 7 = .ok (.if_icmp .ne 7, 3) := by decide +kernel
theorem d3_10 : decode method_4_code 10 = .ok (.iconst 1, 1) := by decide +kernel
theorem d3_11 : decode method_4_code 11 = .ok (.goto 4, 3) := by decide +kernel
theorem d3_14 : decode method_4_code 14 = .ok (.iconst 0, 1) := by decide +kernel
theorem d3_15 : decode method_4_code 15 = .ok (.ireturn, 1) := by decide +kernel
theorem d3_16 : decode method_4_code 16 = .ok (.iload_n 2, 1) := by decide +kernel
theorem d3_17 : decode method_4_code 17 = .ok (.iload 4, 2) := by decide +kernel
theorem d3_19 : decode method_4_code 19 = .ok (.if_icmp .ne 21, 3) := by decide +kernel
theorem d3_22 : decode method_4_code 22 = .ok (.iload_n 3, 1) := by decide +kernel
theorem d3_23 : decode method_4_code 23 = .ok (.iload 5, 2) := by decide +kernel
theorem d3_25 : decode method_4_code 25 = .ok (.if_icmp .ne 15, 3) := by decide +kernel
theorem d3_28 : decode method_4_code 28 = .ok (.iload_n 0, 1) := by decide +kernel
theorem d3_29 : decode method_4_code 29 = .ok (.bipush (-128), 2) := by decide +kernel
theorem d3_31 : decode method_4_code 31 = .ok (.if_icmp .ne 7, 3) := by decide +kernel
theorem d3_34 : decode method_4_code 34 = .ok (.iconst 1, 1) := by decide +kernel
theorem d3_35 : decode method_4_code 35 = .ok (.goto 4, 3) := by decide +kernel
theorem d3_38 : decode method_4_code 38 = .ok (.iconst 0, 1) := by decide +kernel
theorem d3_39 : decode method_4_code 39 = .ok (.ireturn, 1) := by decide +kernel
theorem d3_40 : decode method_4_code 40 = .ok (.iload_n 0, 1) := by decide +kernel
theorem d3_41 : decode method_4_code 41 = .ok (.ifCond .ne 7, 3) := by decide +kernel
theorem d3_44 : decode method_4_code 44 = .ok (.iconst 1, 1) := by decide +kernel
theorem d3_45 : decode method_4_code 45 = .ok (.goto 4, 3) := by decide +kernel
theorem d3_48 : decode method_4_code 48 = .ok (.iconst 0, 1) := by decide +kernel
theorem d3_49 : decode method_4_code 49 = .ok (.ireturn, 1) := by decide +kernel
theorem pn_3 : plainFor (⟨"com/example/sagasu/sagasu/WindowFilterMark209PinLaw", "slot", "(BZBBBBB)Z"⟩ : MethodName) = true := by first | exact plainFor_of_name (by first | (simp [plainName, overriddenIn]; done) | decide +kernel) | decide +kernel
theorem ef_3 (m : MethodId) (u0 : Int32) (u1 : Int32) (u2 : Int32) (u3 : Int32) (u4 : Int32) (u5 : Int32) (u6 : Int32) : entryFrame m #[(.int u0), (.int u1), (.int u2), (.int u3), (.int u4), (.int u5), (.int u6)] 7 = (mkF m 0 #[.val (.int u0), .val (.int u1), .val (.int u2), .val (.int u3), .val (.int u4), .val (.int u5), .val (.int u6)] []) := by first | (simp [entryFrame, mkF, argsToLocals, Value.category]; done) | rfl
def FO (u0 : Int32) (u1 : Int32) (u2 : Int32) (u3 : Int32) (u4 : Int32) (u5 : Int32) (u6 : Int32) : Int32 := (if u1 = (0 : Int32) then (if u0 = u6 then (1 : Int32) else (0 : Int32)) else (if u2 = u4 then (if u3 = u5 then (if u0 = (-128 : Int32) then (1 : Int32) else (0 : Int32)) else (if u0 = (0 : Int32) then (1 : Int32) else (0 : Int32))) else (if u0 = (0 : Int32) then (1 : Int32) else (0 : Int32))))
set_option maxRecDepth 65536 in
set_option maxHeartbeats 40000000 in
theorem rm3 (l : Launch) (Z : State) (a0 : Array Value) (hw : ∀ d ∈ tables_1, d.before a0 Z = true) (u0 : Int32) (u1 : Int32) (u2 : Int32) (u3 : Int32) (u4 : Int32) (u5 : Int32) (u6 : Int32) (h0 : Heap) : Con l Z (⟨"com/example/sagasu/sagasu/WindowFilterMark209PinLaw", "slot", "(BZBBBBB)Z"⟩ : MethodName) method_4_code 7 (some .boolean) ({ frames := 0, cells := 0, slots := 0, locals := 0 } : Room) 0 0 [] #[(.int u0), (.int u1), (.int u2), (.int u3), (.int u4), (.int u5), (.int u6)] h0 (PQ (.int (FO u0 u1 u2 u3 u4 u5 u6)) h0) := by
  refine Con.of pn_3 ?_
  intro p e s m below meth c T C hZ hml hown hret hnm hlk X e0
  rw [ef_3]
  refine o_iloadN C X d3_0 1 rfl rfl ?_
  by_cases q2 : u1 = (0 : Int32)
  · skip
    refine o_ifN C X d3_1 4 rfl ((if0 _ _).trans (teq q2).2) ?_
    refine o_iloadN C X d3_4 5 rfl rfl ?_
    refine o_iload C X d3_5 7 rfl rfl ?_
    by_cases q3 : u0 = u6
    · skip
      refine o_icmpN C X d3_7 10 rfl (teq q3).2 ?_
      refine o_iconst C X d3_10 11 rfl (1 : Int32) (by decide) ?_
      refine o_goto C X d3_11 15 (by decide) (by decide) ?_
      refine o_retN C X hret (by simp) hlk d3_15 ⟨congrArg some (congrArg _ (by rw [FO]; simp only [if_pos q2, if_pos q3] <;> rfl)), rfl, e0⟩ (Nat.le_refl _) (Nat.le_refl _)
    · skip
      refine o_icmpY C X d3_7 14 (by decide) (by decide) (feq q3).2 ?_
      refine o_iconst C X d3_14 15 rfl (0 : Int32) (by decide) ?_
      refine o_retN C X hret (by simp) hlk d3_15 ⟨congrArg some (congrArg _ (by rw [FO]; simp only [if_pos q2, if_neg q3] <;> rfl)), rfl, e0⟩ (Nat.le_refl _) (Nat.le_refl _)
  · skip
    refine o_ifY C X d3_1 16 (by decide) (by decide) ((if0 _ _).trans (feq q2).2) ?_
    refine o_iloadN C X d3_16 17 rfl rfl ?_
    refine o_iload C X d3_17 19 rfl rfl ?_
    by_cases q4 : u2 = u4
    · skip
      refine o_icmpN C X d3_19 22 rfl (teq q4).2 ?_
      refine o_iloadN C X d3_22 23 rfl rfl ?_
      refine o_iload C X d3_23 25 rfl rfl ?_
      by_cases q5 : u3 = u5
      · skip
        refine o_icmpN C X d3_25 28 rfl (teq q5).2 ?_
        refine o_iloadN C X d3_28 29 rfl rfl ?_
        refine o_bipush C X d3_29 31 rfl (-128 : Int32) (by decide) ?_
        by_cases q6 : u0 = (-128 : Int32)
        · skip
          refine o_icmpN C X d3_31 34 rfl (teq q6).2 ?_
          refine o_iconst C X d3_34 35 rfl (1 : Int32) (by decide) ?_
          refine o_goto C X d3_35 39 (by decide) (by decide) ?_
          refine o_retN C X hret (by simp) hlk d3_39 ⟨congrArg some (congrArg _ (by rw [FO]; simp only [if_neg q2, if_pos q4, if_pos q5, if_pos q6] <;> rfl)), rfl, e0⟩ (Nat.le_refl _) (Nat.le_refl _)
        · skip
          refine o_icmpY C X d3_31 38 (by decide) (by decide) (feq q6).2 ?_
          refine o_iconst C X d3_38 39 rfl (0 : Int32) (by decide) ?_
          refine o_retN C X hret (by simp) hlk d3_39 ⟨congrArg some (congrArg _ (by rw [FO]; simp only [if_neg q2, if_pos q4, if_pos q5, if_neg q6] <;> rfl)), rfl, e0⟩ (Nat.le_refl _) (Nat.le_refl _)
      · skip
        refine o_icmpY C X d3_25 40 (by decide) (by decide) (feq q5).2 ?_
        refine o_iloadN C X d3_40 41 rfl rfl ?_
        by_cases q7 : u0 = (0 : Int32)
        · skip
          refine o_ifN C X d3_41 44 rfl ((if0 _ _).trans (teq q7).2) ?_
          refine o_iconst C X d3_44 45 rfl (1 : Int32) (by decide) ?_
          refine o_goto C X d3_45 49 (by decide) (by decide) ?_
          refine o_retN C X hret (by simp) hlk d3_49 ⟨congrArg some (congrArg _ (by rw [FO]; simp only [if_neg q2, if_pos q4, if_neg q5, if_pos q7] <;> rfl)), rfl, e0⟩ (Nat.le_refl _) (Nat.le_refl _)
        · skip
          refine o_ifY C X d3_41 48 (by decide) (by decide) ((if0 _ _).trans (feq q7).2) ?_
          refine o_iconst C X d3_48 49 rfl (0 : Int32) (by decide) ?_
          refine o_retN C X hret (by simp) hlk d3_49 ⟨congrArg some (congrArg _ (by rw [FO]; simp only [if_neg q2, if_pos q4, if_neg q5, if_neg q7] <;> rfl)), rfl, e0⟩ (Nat.le_refl _) (Nat.le_refl _)
    · skip
      refine o_icmpY C X d3_19 40 (by decide) (by decide) (feq q4).2 ?_
      refine o_iloadN C X d3_40 41 rfl rfl ?_
      by_cases q8 : u0 = (0 : Int32)
      · skip
        refine o_ifN C X d3_41 44 rfl ((if0 _ _).trans (teq q8).2) ?_
        refine o_iconst C X d3_44 45 rfl (1 : Int32) (by decide) ?_
        refine o_goto C X d3_45 49 (by decide) (by decide) ?_
        refine o_retN C X hret (by simp) hlk d3_49 ⟨congrArg some (congrArg _ (by rw [FO]; simp only [if_neg q2, if_neg q4, if_pos q8] <;> rfl)), rfl, e0⟩ (Nat.le_refl _) (Nat.le_refl _)
      · skip
        refine o_ifY C X d3_41 48 (by decide) (by decide) ((if0 _ _).trans (feq q8).2) ?_
        refine o_iconst C X d3_48 49 rfl (0 : Int32) (by decide) ?_
        refine o_retN C X hret (by simp) hlk d3_49 ⟨congrArg some (congrArg _ (by rw [FO]; simp only [if_neg q2, if_neg q4, if_neg q8] <;> rfl)), rfl, e0⟩ (Nat.le_refl _) (Nat.le_refl _)
def DD (fa fb : Nat → Int32) (w0 w1 : Int32) (j : Nat) : Int32 := ((fa j ^^^ w0) ||| (fb j ^^^ w1))
def MK (d : Int32) : Int32 := nar .byte ((((d - (1 : Int32)) &&& (d ^^^ (-1 : Int32))) &&& (128 : Int32)).toInt8.toInt32)
theorem d2_0 : decode prog_64_method_10_code 0 = .ok (.iconst 0, 1) := by decide +kernel
theorem d2_1 : decode prog_64_method_10_code 1 = .ok (.istore 6, 2) := by decide +kernel
theorem d2_3 : decode prog_64_method_10_code 3 = .ok (.iload 6, 2) := by decide +kernel
theorem d2_5 : decode prog_64_method_10_code 5 = .ok (.iload 5, 2) := by decide +kernel
theorem d2_7 : decode prog_64_method_10_code 7 = .ok (.if_icmp .ge 43, 3) := by decide +kernel
theorem d2_10 : decode prog_64_method_10_code 10 = .ok (.aload_n 0, 1) := by decide +kernel
theorem d2_11 : decode prog_64_method_10_code 11 = .ok (.iload 6, 2) := by decide +kernel
theorem d2_13 : decode prog_64_method_10_code 13 = .ok (.baload, 1) := by decide +kernel
theorem d2_14 : decode prog_64_method_10_code 14 = .ok (.iload_n 2, 1) := by decide +kernel
theorem d2_15 : decode prog_64_method_10_code 15 = .ok (.ixor, 1) := by decide +kernel
theorem d2_16 : decode prog_64_method_10_code 16 = .ok (.aload_n 1, 1) := by decide +kernel
theorem d2_17 : decode prog_64_method_10_code 17 = .ok (.iload 6, 2) := by decide +kernel
theorem d2_19 : decode prog_64_method_10_code 19 = .ok (.baload, 1) := by decide +kernel
theorem d2_20 : decode prog_64_method_10_code 20 = .ok (.iload_n 3, 1) := by decide +kernel
theorem d2_21 : decode prog_64_method_10_code 21 = .ok (.ixor, 1) := by decide +kernel
theorem d2_22 : decode prog_64_method_10_code 22 = .ok (.ior, 1) := by decide +kernel
theorem d2_23 : decode prog_64_method_10_code 23 = .ok (.istore 7, 2) := by decide +kernel
theorem d2_25 : decode prog_64_method_10_code 25 = .ok (.aload 4, 2) := by decide +kernel
theorem d2_27 : decode prog_64_method_10_code 27 = .ok (.iload 6, 2) := by decide +kernel
theorem d2_29 : decode prog_64_method_10_code 29 = .ok (.iload 7, 2) := by decide +kernel
theorem d2_31 : decode prog_64_method_10_code 31 = .ok (.iconst 1, 1) := by decide +kernel
theorem d2_32 : decode prog_64_method_10_code 32 = .ok (.isub, 1) := by decide +kernel
theorem d2_33 : decode prog_64_method_10_code 33 = .ok (.iload 7, 2) := by decide +kernel
theorem d2_35 : decode prog_64_method_10_code 35 = .ok (.iconst (-1), 1) := by decide +kernel
theorem d2_36 : decode prog_64_method_10_code 36 = .ok (.ixor, 1) := by decide +kernel
theorem d2_37 : decode prog_64_method_10_code 37 = .ok (.iand, 1) := by decide +kernel
theorem d2_38 : decode prog_64_method_10_code 38 = .ok (.sipush 128, 3) := by decide +kernel
theorem d2_41 : decode prog_64_method_10_code 41 = .ok (.iand, 1) := by decide +kernel
theorem d2_42 : decode prog_64_method_10_code 42 = .ok (.i2b, 1) := by decide +kernel
theorem d2_43 : decode prog_64_method_10_code 43 = .ok (.bastore, 1) := by decide +kernel
theorem d2_44 : decode prog_64_method_10_code 44 = .ok (.iinc 6 1, 3) := by decide +kernel
theorem d2_47 : decode prog_64_method_10_code 47 = .ok (.goto (-44), 3) := by decide +kernel
theorem d2_50 : decode prog_64_method_10_code 50 = .ok (.return_, 1) := by decide +kernel
theorem pn_2 : plainFor (⟨"com/example/sagasu/sagasu/WindowFilter", "mark", "([B[BBB[BI)V"⟩ : MethodName) = true := by first | exact plainFor_of_name (by first | (simp [plainName, overriddenIn]; done) | decide +kernel) | decide +kernel
theorem ef_2 (m : MethodId) (a : Addr) (b : Addr) (w0 : Int32) (w1 : Int32) (mk : Addr) (t0 : Int32) : entryFrame m #[(.ref a), (.ref b), (.int w0), (.int w1), (.ref mk), (.int t0)] 8 = (mkF m 0 #[.val (.ref a), .val (.ref b), .val (.int w0), .val (.int w1), .val (.ref mk), .val (.int t0), .unset, .unset] []) := by first | (simp [entryFrame, mkF, argsToLocals, Value.category]; done) | rfl
set_option maxRecDepth 65536 in
set_option maxHeartbeats 40000000 in
theorem loop1 {p : Program} {l : Launch} {e : Env} {R : Room} {s : State} {m : MethodId} {args : Array Value} {below : List Frame} {meth : Method} {c : Code} {Z : State} {a0 : Array Value} (a b mk : Addr) (fa fb fm : Nat → Int32) (w0 w1 t0 : Int32) (n n0 : Nat) (h0 : Heap) (hn : n ≤ 4) (ht : t0.toInt = n) (ge_mk : n0 ≤ mk) (ne0 : a ≠ mk) (ne1 : b ≠ mk) (C : Cx p c prog_64_method_10_code) (hZ : Z.Warmed39 s.vm) (hret : meth.sig.returnType = none) (hlk : meth.locks = false) :
    ∀ (k i : Nat) (v : Int32) (T : State) (h : Heap) (locs : List Loc) (d : Slot) (f : Nat → Int32), v.toInt = i → i + k = n → One d → Stand p l e R s m args below meth c T locs 0 0 → T.heap = h → Fr n0 locs → Keep h0 h [mk] → AI Z h a .byte 4 fa → AI Z h b .byte 4 fb → AI Z h mk .byte 5 f → (∀ j, j < 5 → f j = if j < i then MK (DD fa fb w0 w1 j) else fm j) →
      Ends p e below s (fun v h L => v = none ∧ Fr n0 L ∧ Keep h0 h [mk] ∧ AI Z h mk .byte 5 (fun j => if j < n then MK (DD fa fb w0 w1 j) else fm j)) 0 0 (T.setTop (mkF m 3 #[.val (.ref a), .val (.ref b), .val (.int w0), .val (.int w1), .val (.ref mk), .val (.int t0), .val (.int v), d] [])) := by
  intro k
  induction k with
  | zero =>
    intro i v T h locs d f hv hk hd X e0 N0 K0 A0 A1 Am hf
    have q : ¬ v < t0 := by rw [Int32.lt_iff_toInt_lt]; omega
    obtain rfl : i = n := by omega
    refine o_iload C X d2_3 5 rfl rfl ?_
    refine o_iload C X d2_5 7 rfl rfl ?_
    refine o_icmpY C X d2_7 50 (by decide) (by decide) (flt q).2.1 ?_
    exact o_ret C X hret hlk d2_50 (by subst e0; exact ⟨rfl, N0, K0, Am.congr hf⟩) (Nat.le_refl _) (Nat.le_refl _)
  | succ k ih =>
    intro i v T h locs d f hv hk hd X e0 N0 K0 A0 A1 Am hf
    have q : v < t0 := by rw [Int32.lt_iff_toInt_lt]; omega
    refine o_iload C X d2_3 5 rfl rfl ?_
    refine o_iload C X d2_5 7 rfl rfl ?_
    refine o_icmpN C X d2_7 10 rfl (tlt q).2.1 ?_
    refine o_aloadN C X d2_10 11 rfl rfl rfl ?_
    refine o_iload C X d2_11 13 rfl rfl ?_
    refine o_baload C X hZ e0 A0 (i) hv (by omega) d2_13 14 rfl ?_
    refine o_iloadN C X d2_14 15 rfl rfl ?_
    refine o_ixor C X d2_15 16 rfl ?_
    refine o_aloadN C X d2_16 17 rfl rfl rfl ?_
    refine o_iload C X d2_17 19 rfl rfl ?_
    refine o_baload C X hZ e0 A1 (i) hv (by omega) d2_19 20 rfl ?_
    refine o_iloadN C X d2_20 21 rfl rfl ?_
    refine o_ixor C X d2_21 22 rfl ?_
    refine o_ior C X d2_22 23 rfl ?_
    refine o_istore C X d2_23 25 rfl #[.val (.ref a), .val (.ref b), .val (.int w0), .val (.int w1), .val (.ref mk), .val (.int t0), .val (.int v), .val (.int (((fa i) ^^^ w0) ||| ((fb i) ^^^ w1)))] (by rcases hd with rfl | ⟨z, rfl, hz⟩ <;> first | rfl | (cases z <;> first | rfl | (simp [Value.category] at hz))) ?_
    refine o_aload C X d2_25 27 rfl rfl rfl ?_
    refine o_iload C X d2_27 29 rfl rfl ?_
    refine o_iload C X d2_29 31 rfl rfl ?_
    refine o_iconst C X d2_31 32 rfl (1 : Int32) (by decide) ?_
    refine o_isub C X d2_32 33 rfl ?_
    refine o_iload C X d2_33 35 rfl rfl ?_
    refine o_iconst C X d2_35 36 rfl (-1 : Int32) (by decide) ?_
    refine o_ixor C X d2_36 37 rfl ?_
    refine o_iand C X d2_37 38 rfl ?_
    refine o_sipush C X d2_38 41 rfl (128 : Int32) (by decide) ?_
    refine o_iand C X d2_41 42 rfl ?_
    refine o_i2b C X d2_42 43 rfl ?_
    refine o_bastore C X hZ e0 Am i hv (by omega) d2_43 44 rfl N0 ge_mk ?_
    intro T h1 locs1 X e1 W1 N1 Am1
    refine o_iinc C X (v + (1 : Int32)) d2_44 47 rfl #[.val (.ref a), .val (.ref b), .val (.int w0), .val (.int w1), .val (.ref mk), .val (.int t0), .val (.int (v + (1 : Int32))), .val (.int (((fa i) ^^^ w0) ||| ((fb i) ^^^ w1)))] rfl rfl rfl ?_
    refine o_goto C X d2_47 3 (by decide) (by decide) ?_
    refine ih (i + 1) _ T h1 locs1 _ _ (own_next hv (by omega)) (by omega) (One.val rfl) X e1 N1 (K0.wr W1 (Or.inl (by simp))) (A0.other W1 ne0) (A1.other W1 ne1) Am1 fun j hj => ?_
    by_cases r : j = i
    · rw [if_pos r, r, if_pos (by omega)]; rfl
    · rw [if_neg r, hf j hj]
      by_cases g : j < i
      · rw [if_pos g, if_pos (by omega)]
      · rw [if_neg g, if_neg (by omega)]
set_option maxRecDepth 65536 in
set_option maxHeartbeats 40000000 in
theorem rm2 (l : Launch) (Z : State) (a0 : Array Value) (hw : ∀ d ∈ tables_1, d.before a0 Z = true) (a b mk : Addr) (fa fb fm : Nat → Int32) (w0 w1 t0 : Int32) (h0 : Heap) (n n0 : Nat) (hn : n ≤ 4) (ht : t0.toInt = n) (ge_mk : n0 ≤ mk) (ne0 : a ≠ mk) (ne1 : b ≠ mk) (A0 : AI Z h0 a .byte 4 fa) (A1 : AI Z h0 b .byte 4 fb) (Am : AI Z h0 mk .byte 5 fm) : Con l Z (⟨"com/example/sagasu/sagasu/WindowFilter", "mark", "([B[BBB[BI)V"⟩ : MethodName) prog_64_method_10_code 8 none ({ frames := 0, cells := 0, slots := 0, locals := 0 } : Room) 0 0 [] #[(.ref a), (.ref b), (.int w0), (.int w1), (.ref mk), (.int t0)] h0 (fun v h L => v = none ∧ Fr n0 L ∧ Keep h0 h [mk] ∧ AI Z h mk .byte 5 (fun j => if j < n then MK (DD fa fb w0 w1 j) else fm j)) := by
  refine Con.of pn_2 ?_
  intro p e s m below meth c T C hZ hml hown hret hnm hlk X e0
  rw [ef_2]
  refine o_iconst C X d2_0 1 rfl (0 : Int32) (by decide) ?_
  refine o_istore C X d2_1 3 rfl #[.val (.ref a), .val (.ref b), .val (.int w0), .val (.int w1), .val (.ref mk), .val (.int t0), .val (.int (0 : Int32)), .unset] rfl ?_
  exact loop1 (a0 := a0) a b mk fa fb fm w0 w1 t0 n n0 h0 hn ht ge_mk ne0 ne1 C hZ hret hlk n 0 _ T h0 [] _ fm rfl (by omega) One.u X e0 (Fr.nil n0) (Keep.refl _ _) A0 A1 Am (fun j hj => by rw [if_neg (Nat.not_lt_zero _)])
theorem own_rem (x : Int32) : ∃ i : Nat, i ≤ 4 ∧ ((x &&& (2147483647 : Int32)) % (5 : Int32)).toInt = i := by
  have hn := c_mask x 2147483647 31 (by decide) (by decide)
  have hr := (c_irem (x &&& 2147483647) 5 5 rfl).1 (by omega)
  exact ⟨(x.toInt % 2147483648 % 5).toNat, by omega, by omega⟩
theorem own_mask3 (x : Int32) : ∃ i : Nat, i ≤ 3 ∧ (x &&& (3 : Int32)).toInt = i := by
  have hn := c_mask x 3 2 (by decide) (by decide)
  exact ⟨(x.toInt % 4).toNat, by omega, by omega⟩
theorem own_n128 (n : Nat) : n &&& 2 ^ 7 = if n.testBit 7 then 128 else 0 := by
  apply Nat.eq_of_testBit_eq
  intro i
  rw [Nat.testBit_and, Nat.testBit_two_pow]
  by_cases h : 7 = i
  · subst h
    cases n.testBit 7 <;> decide
  · cases n.testBit 7
    · simp [h]
    · have : (128 : Nat).testBit i = false := by rw [show (128 : Nat) = 2 ^ 7 from rfl, Nat.testBit_two_pow]; simp [h]
      simp [h, this]
theorem own_and128 (e : Int32) : e &&& 128 = if e.toBitVec.toNat.testBit 7 then 128 else 0 := by
  apply Int32.toBitVec_inj.mp
  apply BitVec.eq_of_toNat_eq
  rw [Int32.toBitVec_and, BitVec.toNat_and, show (128 : Int32).toBitVec.toNat = 2 ^ 7 from rfl, own_n128]
  cases e.toBitVec.toNat.testBit 7 <;> rfl
theorem own_tb (n : Nat) : n.testBit 7 = decide (n / 128 % 2 = 1) := Nat.testBit_eq_decide_div_mod_eq
def Low (d : Int32) : Prop := d = 0 ∨ d.toBitVec.toNat % 256 ≠ 0
theorem own_bit (d : Int32) (h : d.toBitVec.toNat % 256 ≠ 0) : ((d - (1 : Int32)) &&& (d ^^^ (-1 : Int32))).toBitVec.toNat.testBit 7 = false := by
  rw [Int32.toBitVec_and, BitVec.toNat_and, Nat.testBit_and, Int32.toBitVec_xor, BitVec.toNat_xor, Nat.testBit_xor, show ((-1 : Int32).toBitVec.toNat).testBit 7 = true from by decide, own_tb, own_tb, Int32.toBitVec_sub, BitVec.toNat_sub, show ((1 : Int32).toBitVec.toNat) = 1 from rfl]
  have hd := d.toBitVec.isLt
  generalize d.toBitVec.toNat = n at *
  by_cases q : n / 128 % 2 = 1
  · simp [q]
  · have : ¬ ((2 ^ 32 - 1 + n) % 2 ^ 32 / 128 % 2 = 1) := by omega
    simp [this]
theorem own_mk (d : Int32) (h : Low d) : MK d = if d = 0 then (-128 : Int32) else 0 := by
  rcases h with rfl | h
  · decide
  · rw [if_neg (fun q => h (by rw [q]; rfl))]
    unfold MK
    rw [own_and128, own_bit d h]
    decide
theorem own_dz (x y : Int32) (hx : nar .byte x = x) (hy : nar .byte y = y) : Low (x ^^^ y) := by
  by_cases q : (x ^^^ y).toBitVec.toNat % 256 = 0
  · left
    have h1 := c_i2b x
    have h2 := c_i2b y
    rw [show x.toInt8.toInt32 = x from hx] at h1
    rw [show y.toInt8.toInt32 = y from hy] at h2
    rw [Int32.toBitVec_xor, BitVec.toNat_xor, show (256 : Nat) = 2 ^ 8 from rfl, Nat.xor_mod_two_pow] at q
    have q' : x.toBitVec.toNat % 2 ^ 8 = y.toBitVec.toNat % 2 ^ 8 := by
      have := congrArg (· ^^^ (y.toBitVec.toNat % 2 ^ 8)) q
      simpa [Nat.xor_assoc] using this
    have e : x = y := by
      apply Int32.toInt_inj.mp
      have a1 : x.toInt = x.toBitVec.toInt := rfl
      have a2 : y.toInt = y.toBitVec.toInt := rfl
      rw [BitVec.toInt_eq_toNat_bmod] at a1 a2
      have b1 := bm32 (x.toBitVec.toNat : Int)
      have b2 := bm32 (y.toBitVec.toNat : Int)
      rw [← a1] at b1
      rw [← a2] at b2
      clear a1 a2 q
      generalize x.toBitVec.toNat = n at *
      generalize y.toBitVec.toNat = k at *
      omega
    rw [e]
    exact Int32.xor_self
  · right; exact q
theorem own_or (a b : Int32) (ha : Low a) (hb : Low b) : Low (a ||| b) ∧ (a ||| b = 0 ↔ a = 0 ∧ b = 0) := by
  have key : ∀ a b : Int32, a.toBitVec.toNat % 256 ≠ 0 → (a ||| b).toBitVec.toNat % 256 ≠ 0 := fun a b h => by
    rw [Int32.toBitVec_or, BitVec.toNat_or, show (256 : Nat) = 2 ^ 8 from rfl, Nat.or_mod_two_pow]
    have := @Nat.left_le_or (a.toBitVec.toNat % 2 ^ 8) (b.toBitVec.toNat % 2 ^ 8)
    have h' : a.toBitVec.toNat % 2 ^ 8 ≠ 0 := h
    omega
  have nz : ∀ d : Int32, d.toBitVec.toNat % 256 ≠ 0 → d ≠ 0 := fun d h q => h (by rw [q]; rfl)
  rcases ha with rfl | ha
  · rcases hb with rfl | hb
    · exact ⟨Or.inl rfl, by decide⟩
    · have := key b 0 hb
      rw [Int32.or_comm] at this
      exact ⟨Or.inr this, fun q => absurd q (nz _ this), fun q => absurd q.2 (nz _ hb)⟩
  · have := key a b ha
    exact ⟨Or.inr this, fun q => absurd q (nz _ this), fun q => absurd q.1 (nz _ ha)⟩
theorem own_xz (x y : Int32) : x ^^^ y = 0 ↔ x = y := Int32.xor_eq_zero_iff
theorem own_dd (fa fb : Nat → Int32) (w0 w1 : Int32) (i : Nat) (b0 : nar .byte (fa i) = fa i) (c0 : nar .byte w0 = w0) (b1 : nar .byte (fb i) = fb i) (c1 : nar .byte w1 = w1) : MK (DD fa fb w0 w1 i) = if fa i = w0 ∧ fb i = w1 then (-128 : Int32) else 0 := by
  have l0 := own_dz _ _ b0 c0
  have m1 := own_dz _ _ b1 c1
  have o1 := own_or _ _ l0 m1
  have h : DD fa fb w0 w1 i = 0 ↔ fa i = w0 ∧ fb i = w1 := by
    unfold DD
    rw [o1.2]
    simp only [own_xz, and_assoc]
  rw [own_mk _ (show Low (DD fa fb w0 w1 i) from o1.1)]
  simp only [h]
theorem own_slot (fa fb fm fr : Nat → Int32) (w0 w1 t0 : Int32) (n i : Nat) (i0 m : Int32) (hn : n ≤ 4) (ht : t0.toInt = n) (hfr : fr i = if i < n then MK (DD fa fb w0 w1 i) else fm i) (b0 : nar .byte (fa i) = fa i) (b1 : nar .byte (fb i) = fb i) (c0 : nar .byte w0 = w0) (c1 : nar .byte w1 = w1) (hm : fm i = m) (hi : i0.toInt = i) (hlt : i < 4) : ¬ (FO (fr i) (if i0 < t0 then (1 : Int32) else (0 : Int32)) (fa i) (fb i) w0 w1 m = (0 : Int32)) := by
  rw [own_dd fa fb w0 w1 i b0 c0 b1 c1] at hfr
  rw [hfr]
  unfold FO
  by_cases q : i0 < t0
  · have q' : i < n := by rw [Int32.lt_iff_toInt_lt] at q; omega
    rw [if_pos q, if_pos q', if_neg (by decide)]
    by_cases r : fa i = w0 ∧ fb i = w1
    · simp [r]
    · simp only [if_neg r]
      simp only [not_and] at r
      (repeat' split) <;> simp_all
  · have q' : ¬ i < n := by rw [Int32.lt_iff_toInt_lt] at q; omega
    rw [if_neg q, if_neg q', if_pos (by decide), if_pos hm]; decide
theorem pd_0 : parseMethodDescriptor "(IIBJI)B" = some ⟨[.int, .int, .byte, .long, .int], some .byte⟩ := by decide +kernel
theorem pd_1 : parseMethodDescriptor "([B[BBB[BI)V" = some ⟨[(.array .byte), (.array .byte), .byte, .byte, (.array .byte), .int], none⟩ := by decide +kernel
theorem pd_2 : parseMethodDescriptor "(BZBBBBB)Z" = some ⟨[.byte, .boolean, .byte, .byte, .byte, .byte, .byte], some .boolean⟩ := by decide +kernel
theorem pn_0 : plainFor x = true := by first | exact plainFor_of_name (by first | (simp [plainName, overriddenIn]; done) | decide +kernel) | decide +kernel
theorem ef_0 (m : MethodId) (x0 : Int32) (x1 : Int32) (x2 : Int64) (x3 : Int64) (x4 : Int32) (x5 : Int32) : entryFrame m #[(.int x0), (.int x1), (.long x2), (.long x3), (.int x4), (.int x5)] maxLocals = (mkF m 0 #[.val (.int x0), .val (.int x1), .val (.long x2), .second, .val (.long x3), .second, .val (.int x4), .val (.int x5), .unset, .unset, .unset, .unset, .unset, .unset, .unset, .unset, .unset, .unset, .unset] []) := by first | (simp [entryFrame, mkF, argsToLocals, Value.category, maxLocals]; done) | rfl
set_option maxRecDepth 65536 in
set_option maxHeartbeats 40000000 in
theorem rm0 (l : Launch) (Z : State) (a0 : Array Value) (hw : ∀ d ∈ tables_1, d.before a0 Z = true) (x0 : Int32) (x1 : Int32) (x2 : Int64) (x3 : Int64) (x4 : Int32) (x5 : Int32) (h0 : Heap) (n0 : Nat) (Z0 : n0 ≤ h0.size) : Con l Z x code maxLocals ret room_1 16 128 tables_1 #[(.int x0), (.int x1), (.long x2), (.long x3), (.int x4), (.int x5)] h0 (fun v _ L => v = some (.int 1) ∧ Fr n0 L) := by
  refine Con.of pn_0 ?_
  intro p e s m below meth c T C hZ hml hown hret hnm hlk X e0
  have N0 := Fr.nil n0
  rw [ef_0]
  refine o_iloadN C X at_0 1 rfl rfl ?_
  refine o_i2b C X at_1 2 rfl ?_
  refine o_istore C X at_2 4 rfl #[.val (.int x0), .val (.int x1), .val (.long x2), .second, .val (.long x3), .second, .val (.int x4), .val (.int x5), .val (.int (x0.toInt8.toInt32)), .unset, .unset, .unset, .unset, .unset, .unset, .unset, .unset, .unset, .unset] rfl ?_
  refine o_iloadN C X at_4 5 rfl rfl ?_
  refine o_i2b C X at_5 6 rfl ?_
  refine o_istore C X at_6 8 rfl #[.val (.int x0), .val (.int x1), .val (.long x2), .second, .val (.long x3), .second, .val (.int x4), .val (.int x5), .val (.int (x0.toInt8.toInt32)), .val (.int (x1.toInt8.toInt32)), .unset, .unset, .unset, .unset, .unset, .unset, .unset, .unset, .unset] rfl ?_
  refine o_iload C X at_8 10 rfl rfl ?_
  refine o_ldcI C X hZ hown (hw _ (List.mem_of_getElem? (i := 0) rfl)) at_10 12 rfl ?_
  refine o_iand C X at_12 13 rfl ?_
  refine o_iconst C X at_13 14 rfl (5 : Int32) (by decide) ?_
  refine o_irem C X at_14 15 rfl (by decide) ?_
  refine o_istore C X at_15 17 rfl #[.val (.int x0), .val (.int x1), .val (.long x2), .second, .val (.long x3), .second, .val (.int x4), .val (.int x5), .val (.int (x0.toInt8.toInt32)), .val (.int (x1.toInt8.toInt32)), .val (.int ((x5 &&& (2147483647 : Int32)) % (5 : Int32))), .unset, .unset, .unset, .unset, .unset, .unset, .unset, .unset] rfl ?_
  generalize hw0 : (x0.toInt8.toInt32) = w0
  have bw0 : nar .byte w0 = w0 := by rw [← hw0]; exact nar_i2b _
  generalize hw1 : (x1.toInt8.toInt32) = w1
  have bw1 : nar .byte w1 = w1 := by rw [← hw1]; exact nar_i2b _
  obtain ⟨n, hn, ht⟩ := own_rem x5
  generalize ht0 : ((x5 &&& (2147483647 : Int32)) % (5 : Int32)) = t0
  rw [ht0] at ht
  refine o_iconst C X at_17 18 rfl (4 : Int32) (by decide) ?_
  refine o_newarrayB C X hZ (hw _ (List.mem_of_getElem? (i := 1) rfl)) e0 (4) (by decide) (4) (by decide) (by decide) (by decide) (by decide) at_18 20 rfl ?_
  intro T h_1 a g_a X e_1 E_1 Aa_1
  have ge_a : n0 ≤ a := by rw [g_a]; exact Z0
  have Z_1 : n0 ≤ h_1.size := Nat.le_trans Z0 E_1.1
  refine o_astore C X at_20 22 rfl rfl #[.val (.int x0), .val (.int x1), .val (.long x2), .second, .val (.long x3), .second, .val (.int x4), .val (.int x5), .val (.int w0), .val (.int w1), .val (.int t0), .val (.ref a), .unset, .unset, .unset, .unset, .unset, .unset, .unset] rfl ?_
  refine o_iconst C X at_22 23 rfl (4 : Int32) (by decide) ?_
  refine o_newarrayB C X hZ (hw _ (List.mem_of_getElem? (i := 1) rfl)) e_1 (4) (by decide) (4) (by decide) (by decide) (by decide) (by decide) at_23 25 rfl ?_
  intro T h_2 b g_b X e_2 E_2 Ab_2
  have ne_a_b : a ≠ b := by rw [g_b]; exact Nat.ne_of_lt Aa_1.lt
  have ge_b : n0 ≤ b := by rw [g_b]; exact Z_1
  have Z_2 : n0 ≤ h_2.size := Nat.le_trans Z_1 E_2.1
  have Aa_2 := Aa_1.ext E_2
  refine o_astore C X at_25 27 rfl rfl #[.val (.int x0), .val (.int x1), .val (.long x2), .second, .val (.long x3), .second, .val (.int x4), .val (.int x5), .val (.int w0), .val (.int w1), .val (.int t0), .val (.ref a), .val (.ref b), .unset, .unset, .unset, .unset, .unset, .unset] rfl ?_
  refine o_aload C X at_27 29 rfl rfl rfl ?_
  refine o_iconst C X at_29 30 rfl (0 : Int32) (by decide) ?_
  refine o_iload C X at_30 32 rfl rfl ?_
  refine o_iconst C X at_32 33 rfl (0 : Int32) (by decide) ?_
  refine o_iload C X at_33 35 rfl rfl ?_
  refine o_lloadN C X at_35 36 rfl rfl ?_
  refine o_iconst C X at_36 37 rfl (0 : Int32) (by decide) ?_
  refine o_callP C X hZ (by rw [hml]; rfl) (own := "com/example/sagasu/sagasu/WindowFilterMark209PinLaw") (y := (⟨"com/example/sagasu/sagasu/WindowFilterMark209PinLaw", "pick", "(IIBJI)B"⟩ : MethodName)) (rf := 0) (rl := 0) hown (hw _ (List.mem_of_getElem? (i := 2) rfl)) (hw _ (List.mem_of_getElem? (i := 3) rfl)) (hw _ (List.mem_of_getElem? (i := 4) rfl)) (hw _ (List.mem_of_getElem? (i := 5) rfl)) (by decide) (asL := [(.int x4), (.int (0 : Int32)), (.int w0), (.long x2), (.int (0 : Int32))]) (rm1 l Z a0 hw x4 (0 : Int32) w0 x2 (0 : Int32) h_2) e_2 pd_0 rfl rfl 2 (Nat.le_of_eq rfl) (by decide) (by decide) (by decide) (by decide) at_37 40 rfl ?_
  intro T X e_2
  refine o_bastore C X hZ e_2 Aa_2 (0) (by decide) (by decide) at_40 41 rfl N0 ge_a ?_
  intro T h_3 locs_3 X e_3 W_3 N0 Aa_3
  have Ab_3 := Ab_2.other W_3 (Ne.symm ne_a_b)
  have Z_3 : n0 ≤ h_3.size := by rw [W_3.size]; exact Z_2
  refine o_aload C X at_41 43 rfl rfl rfl ?_
  refine o_iconst C X at_43 44 rfl (1 : Int32) (by decide) ?_
  refine o_iload C X at_44 46 rfl rfl ?_
  refine o_iconst C X at_46 47 rfl (1 : Int32) (by decide) ?_
  refine o_iload C X at_47 49 rfl rfl ?_
  refine o_lloadN C X at_49 50 rfl rfl ?_
  refine o_iconst C X at_50 51 rfl (1 : Int32) (by decide) ?_
  refine o_callP C X hZ (by rw [hml]; rfl) (own := "com/example/sagasu/sagasu/WindowFilterMark209PinLaw") (y := (⟨"com/example/sagasu/sagasu/WindowFilterMark209PinLaw", "pick", "(IIBJI)B"⟩ : MethodName)) (rf := 0) (rl := 0) hown (hw _ (List.mem_of_getElem? (i := 2) rfl)) (hw _ (List.mem_of_getElem? (i := 3) rfl)) (hw _ (List.mem_of_getElem? (i := 4) rfl)) (hw _ (List.mem_of_getElem? (i := 5) rfl)) (by decide) (asL := [(.int x4), (.int (1 : Int32)), (.int w0), (.long x2), (.int (1 : Int32))]) (rm1 l Z a0 hw x4 (1 : Int32) w0 x2 (1 : Int32) h_3) e_3 pd_0 rfl rfl 2 (Nat.le_of_eq rfl) (by decide) (by decide) (by decide) (by decide) at_51 54 rfl ?_
  intro T X e_3
  refine o_bastore C X hZ e_3 Aa_3 (1) (by decide) (by decide) at_54 55 rfl N0 ge_a ?_
  intro T h_4 locs_4 X e_4 W_4 N0 Aa_4
  have Ab_4 := Ab_3.other W_4 (Ne.symm ne_a_b)
  have Z_4 : n0 ≤ h_4.size := by rw [W_4.size]; exact Z_3
  refine o_aload C X at_55 57 rfl rfl rfl ?_
  refine o_iconst C X at_57 58 rfl (2 : Int32) (by decide) ?_
  refine o_iload C X at_58 60 rfl rfl ?_
  refine o_iconst C X at_60 61 rfl (2 : Int32) (by decide) ?_
  refine o_iload C X at_61 63 rfl rfl ?_
  refine o_lloadN C X at_63 64 rfl rfl ?_
  refine o_iconst C X at_64 65 rfl (2 : Int32) (by decide) ?_
  refine o_callP C X hZ (by rw [hml]; rfl) (own := "com/example/sagasu/sagasu/WindowFilterMark209PinLaw") (y := (⟨"com/example/sagasu/sagasu/WindowFilterMark209PinLaw", "pick", "(IIBJI)B"⟩ : MethodName)) (rf := 0) (rl := 0) hown (hw _ (List.mem_of_getElem? (i := 2) rfl)) (hw _ (List.mem_of_getElem? (i := 3) rfl)) (hw _ (List.mem_of_getElem? (i := 4) rfl)) (hw _ (List.mem_of_getElem? (i := 5) rfl)) (by decide) (asL := [(.int x4), (.int (2 : Int32)), (.int w0), (.long x2), (.int (2 : Int32))]) (rm1 l Z a0 hw x4 (2 : Int32) w0 x2 (2 : Int32) h_4) e_4 pd_0 rfl rfl 2 (Nat.le_of_eq rfl) (by decide) (by decide) (by decide) (by decide) at_65 68 rfl ?_
  intro T X e_4
  refine o_bastore C X hZ e_4 Aa_4 (2) (by decide) (by decide) at_68 69 rfl N0 ge_a ?_
  intro T h_5 locs_5 X e_5 W_5 N0 Aa_5
  have Ab_5 := Ab_4.other W_5 (Ne.symm ne_a_b)
  have Z_5 : n0 ≤ h_5.size := by rw [W_5.size]; exact Z_4
  refine o_aload C X at_69 71 rfl rfl rfl ?_
  refine o_iconst C X at_71 72 rfl (3 : Int32) (by decide) ?_
  refine o_iload C X at_72 74 rfl rfl ?_
  refine o_iconst C X at_74 75 rfl (3 : Int32) (by decide) ?_
  refine o_iload C X at_75 77 rfl rfl ?_
  refine o_lloadN C X at_77 78 rfl rfl ?_
  refine o_iconst C X at_78 79 rfl (3 : Int32) (by decide) ?_
  refine o_callP C X hZ (by rw [hml]; rfl) (own := "com/example/sagasu/sagasu/WindowFilterMark209PinLaw") (y := (⟨"com/example/sagasu/sagasu/WindowFilterMark209PinLaw", "pick", "(IIBJI)B"⟩ : MethodName)) (rf := 0) (rl := 0) hown (hw _ (List.mem_of_getElem? (i := 2) rfl)) (hw _ (List.mem_of_getElem? (i := 3) rfl)) (hw _ (List.mem_of_getElem? (i := 4) rfl)) (hw _ (List.mem_of_getElem? (i := 5) rfl)) (by decide) (asL := [(.int x4), (.int (3 : Int32)), (.int w0), (.long x2), (.int (3 : Int32))]) (rm1 l Z a0 hw x4 (3 : Int32) w0 x2 (3 : Int32) h_5) e_5 pd_0 rfl rfl 2 (Nat.le_of_eq rfl) (by decide) (by decide) (by decide) (by decide) at_79 82 rfl ?_
  intro T X e_5
  refine o_bastore C X hZ e_5 Aa_5 (3) (by decide) (by decide) at_82 83 rfl N0 ge_a ?_
  intro T h_6 locs_6 X e_6 W_6 N0 Aa_6
  have Ab_6 := Ab_5.other W_6 (Ne.symm ne_a_b)
  have Z_6 : n0 ≤ h_6.size := by rw [W_6.size]; exact Z_5
  refine o_aload C X at_83 85 rfl rfl rfl ?_
  refine o_iconst C X at_85 86 rfl (0 : Int32) (by decide) ?_
  refine o_iload C X at_86 88 rfl rfl ?_
  refine o_iconst C X at_88 89 rfl (4 : Int32) (by decide) ?_
  refine o_iload C X at_89 91 rfl rfl ?_
  refine o_lload C X at_91 93 rfl rfl ?_
  refine o_iconst C X at_93 94 rfl (0 : Int32) (by decide) ?_
  refine o_callP C X hZ (by rw [hml]; rfl) (own := "com/example/sagasu/sagasu/WindowFilterMark209PinLaw") (y := (⟨"com/example/sagasu/sagasu/WindowFilterMark209PinLaw", "pick", "(IIBJI)B"⟩ : MethodName)) (rf := 0) (rl := 0) hown (hw _ (List.mem_of_getElem? (i := 2) rfl)) (hw _ (List.mem_of_getElem? (i := 3) rfl)) (hw _ (List.mem_of_getElem? (i := 4) rfl)) (hw _ (List.mem_of_getElem? (i := 5) rfl)) (by decide) (asL := [(.int x4), (.int (4 : Int32)), (.int w1), (.long x3), (.int (0 : Int32))]) (rm1 l Z a0 hw x4 (4 : Int32) w1 x3 (0 : Int32) h_6) e_6 pd_0 rfl rfl 2 (Nat.le_of_eq rfl) (by decide) (by decide) (by decide) (by decide) at_94 97 rfl ?_
  intro T X e_6
  refine o_bastore C X hZ e_6 Ab_6 (0) (by decide) (by decide) at_97 98 rfl N0 ge_b ?_
  intro T h_7 locs_7 X e_7 W_7 N0 Ab_7
  have Aa_7 := Aa_6.other W_7 ne_a_b
  have Z_7 : n0 ≤ h_7.size := by rw [W_7.size]; exact Z_6
  refine o_aload C X at_98 100 rfl rfl rfl ?_
  refine o_iconst C X at_100 101 rfl (1 : Int32) (by decide) ?_
  refine o_iload C X at_101 103 rfl rfl ?_
  refine o_iconst C X at_103 104 rfl (5 : Int32) (by decide) ?_
  refine o_iload C X at_104 106 rfl rfl ?_
  refine o_lload C X at_106 108 rfl rfl ?_
  refine o_iconst C X at_108 109 rfl (1 : Int32) (by decide) ?_
  refine o_callP C X hZ (by rw [hml]; rfl) (own := "com/example/sagasu/sagasu/WindowFilterMark209PinLaw") (y := (⟨"com/example/sagasu/sagasu/WindowFilterMark209PinLaw", "pick", "(IIBJI)B"⟩ : MethodName)) (rf := 0) (rl := 0) hown (hw _ (List.mem_of_getElem? (i := 2) rfl)) (hw _ (List.mem_of_getElem? (i := 3) rfl)) (hw _ (List.mem_of_getElem? (i := 4) rfl)) (hw _ (List.mem_of_getElem? (i := 5) rfl)) (by decide) (asL := [(.int x4), (.int (5 : Int32)), (.int w1), (.long x3), (.int (1 : Int32))]) (rm1 l Z a0 hw x4 (5 : Int32) w1 x3 (1 : Int32) h_7) e_7 pd_0 rfl rfl 2 (Nat.le_of_eq rfl) (by decide) (by decide) (by decide) (by decide) at_109 112 rfl ?_
  intro T X e_7
  refine o_bastore C X hZ e_7 Ab_7 (1) (by decide) (by decide) at_112 113 rfl N0 ge_b ?_
  intro T h_8 locs_8 X e_8 W_8 N0 Ab_8
  have Aa_8 := Aa_7.other W_8 ne_a_b
  have Z_8 : n0 ≤ h_8.size := by rw [W_8.size]; exact Z_7
  refine o_aload C X at_113 115 rfl rfl rfl ?_
  refine o_iconst C X at_115 116 rfl (2 : Int32) (by decide) ?_
  refine o_iload C X at_116 118 rfl rfl ?_
  refine o_bipush C X at_118 120 rfl (6 : Int32) (by decide) ?_
  refine o_iload C X at_120 122 rfl rfl ?_
  refine o_lload C X at_122 124 rfl rfl ?_
  refine o_iconst C X at_124 125 rfl (2 : Int32) (by decide) ?_
  refine o_callP C X hZ (by rw [hml]; rfl) (own := "com/example/sagasu/sagasu/WindowFilterMark209PinLaw") (y := (⟨"com/example/sagasu/sagasu/WindowFilterMark209PinLaw", "pick", "(IIBJI)B"⟩ : MethodName)) (rf := 0) (rl := 0) hown (hw _ (List.mem_of_getElem? (i := 2) rfl)) (hw _ (List.mem_of_getElem? (i := 3) rfl)) (hw _ (List.mem_of_getElem? (i := 4) rfl)) (hw _ (List.mem_of_getElem? (i := 5) rfl)) (by decide) (asL := [(.int x4), (.int (6 : Int32)), (.int w1), (.long x3), (.int (2 : Int32))]) (rm1 l Z a0 hw x4 (6 : Int32) w1 x3 (2 : Int32) h_8) e_8 pd_0 rfl rfl 2 (Nat.le_of_eq rfl) (by decide) (by decide) (by decide) (by decide) at_125 128 rfl ?_
  intro T X e_8
  refine o_bastore C X hZ e_8 Ab_8 (2) (by decide) (by decide) at_128 129 rfl N0 ge_b ?_
  intro T h_9 locs_9 X e_9 W_9 N0 Ab_9
  have Aa_9 := Aa_8.other W_9 ne_a_b
  have Z_9 : n0 ≤ h_9.size := by rw [W_9.size]; exact Z_8
  refine o_aload C X at_129 131 rfl rfl rfl ?_
  refine o_iconst C X at_131 132 rfl (3 : Int32) (by decide) ?_
  refine o_iload C X at_132 134 rfl rfl ?_
  refine o_bipush C X at_134 136 rfl (7 : Int32) (by decide) ?_
  refine o_iload C X at_136 138 rfl rfl ?_
  refine o_lload C X at_138 140 rfl rfl ?_
  refine o_iconst C X at_140 141 rfl (3 : Int32) (by decide) ?_
  refine o_callP C X hZ (by rw [hml]; rfl) (own := "com/example/sagasu/sagasu/WindowFilterMark209PinLaw") (y := (⟨"com/example/sagasu/sagasu/WindowFilterMark209PinLaw", "pick", "(IIBJI)B"⟩ : MethodName)) (rf := 0) (rl := 0) hown (hw _ (List.mem_of_getElem? (i := 2) rfl)) (hw _ (List.mem_of_getElem? (i := 3) rfl)) (hw _ (List.mem_of_getElem? (i := 4) rfl)) (hw _ (List.mem_of_getElem? (i := 5) rfl)) (by decide) (asL := [(.int x4), (.int (7 : Int32)), (.int w1), (.long x3), (.int (3 : Int32))]) (rm1 l Z a0 hw x4 (7 : Int32) w1 x3 (3 : Int32) h_9) e_9 pd_0 rfl rfl 2 (Nat.le_of_eq rfl) (by decide) (by decide) (by decide) (by decide) at_141 144 rfl ?_
  intro T X e_9
  refine o_bastore C X hZ e_9 Ab_9 (3) (by decide) (by decide) at_144 145 rfl N0 ge_b ?_
  intro T h_10 locs_10 X e_10 W_10 N0 Ab_10
  have Aa_10 := Aa_9.other W_10 ne_a_b
  have Z_10 : n0 ≤ h_10.size := by rw [W_10.size]; exact Z_9
  refine o_iload C X at_145 147 rfl rfl ?_
  refine o_bipush C X at_147 149 rfl (8 : Int32) (by decide) ?_
  refine o_iushr C X at_149 150 rfl ?_
  refine o_i2b C X at_150 151 rfl ?_
  refine o_istore C X at_151 153 rfl #[.val (.int x0), .val (.int x1), .val (.long x2), .second, .val (.long x3), .second, .val (.int x4), .val (.int x5), .val (.int w0), .val (.int w1), .val (.int t0), .val (.ref a), .val (.ref b), .val (.int ((ushr x4 (8 : Int32)).toInt8.toInt32)), .unset, .unset, .unset, .unset, .unset] rfl ?_
  refine o_iload C X at_153 155 rfl rfl ?_
  refine o_bipush C X at_155 157 rfl (12 : Int32) (by decide) ?_
  refine o_iushr C X at_157 158 rfl ?_
  refine o_i2b C X at_158 159 rfl ?_
  refine o_istore C X at_159 161 rfl #[.val (.int x0), .val (.int x1), .val (.long x2), .second, .val (.long x3), .second, .val (.int x4), .val (.int x5), .val (.int w0), .val (.int w1), .val (.int t0), .val (.ref a), .val (.ref b), .val (.int ((ushr x4 (8 : Int32)).toInt8.toInt32)), .val (.int ((ushr x4 (12 : Int32)).toInt8.toInt32)), .unset, .unset, .unset, .unset] rfl ?_
  refine o_iload C X at_161 163 rfl rfl ?_
  refine o_bipush C X at_163 165 rfl (16 : Int32) (by decide) ?_
  refine o_iushr C X at_165 166 rfl ?_
  refine o_i2b C X at_166 167 rfl ?_
  refine o_istore C X at_167 169 rfl #[.val (.int x0), .val (.int x1), .val (.long x2), .second, .val (.long x3), .second, .val (.int x4), .val (.int x5), .val (.int w0), .val (.int w1), .val (.int t0), .val (.ref a), .val (.ref b), .val (.int ((ushr x4 (8 : Int32)).toInt8.toInt32)), .val (.int ((ushr x4 (12 : Int32)).toInt8.toInt32)), .val (.int ((ushr x4 (16 : Int32)).toInt8.toInt32)), .unset, .unset, .unset] rfl ?_
  refine o_iload C X at_169 171 rfl rfl ?_
  refine o_bipush C X at_171 173 rfl (20 : Int32) (by decide) ?_
  refine o_iushr C X at_173 174 rfl ?_
  refine o_i2b C X at_174 175 rfl ?_
  refine o_istore C X at_175 177 rfl #[.val (.int x0), .val (.int x1), .val (.long x2), .second, .val (.long x3), .second, .val (.int x4), .val (.int x5), .val (.int w0), .val (.int w1), .val (.int t0), .val (.ref a), .val (.ref b), .val (.int ((ushr x4 (8 : Int32)).toInt8.toInt32)), .val (.int ((ushr x4 (12 : Int32)).toInt8.toInt32)), .val (.int ((ushr x4 (16 : Int32)).toInt8.toInt32)), .val (.int ((ushr x4 (20 : Int32)).toInt8.toInt32)), .unset, .unset] rfl ?_
  refine o_iload C X at_177 179 rfl rfl ?_
  refine o_bipush C X at_179 181 rfl (24 : Int32) (by decide) ?_
  refine o_iushr C X at_181 182 rfl ?_
  refine o_i2b C X at_182 183 rfl ?_
  refine o_istore C X at_183 185 rfl #[.val (.int x0), .val (.int x1), .val (.long x2), .second, .val (.long x3), .second, .val (.int x4), .val (.int x5), .val (.int w0), .val (.int w1), .val (.int t0), .val (.ref a), .val (.ref b), .val (.int ((ushr x4 (8 : Int32)).toInt8.toInt32)), .val (.int ((ushr x4 (12 : Int32)).toInt8.toInt32)), .val (.int ((ushr x4 (16 : Int32)).toInt8.toInt32)), .val (.int ((ushr x4 (20 : Int32)).toInt8.toInt32)), .val (.int ((ushr x4 (24 : Int32)).toInt8.toInt32)), .unset] rfl ?_
  refine o_iconst C X at_185 186 rfl (5 : Int32) (by decide) ?_
  generalize hm0 : ((ushr x4 (8 : Int32)).toInt8.toInt32) = m0
  have bm0 : nar .byte m0 = m0 := by rw [← hm0]; exact nar_i2b _
  generalize hm1 : ((ushr x4 (12 : Int32)).toInt8.toInt32) = m1
  have bm1 : nar .byte m1 = m1 := by rw [← hm1]; exact nar_i2b _
  generalize hm2 : ((ushr x4 (16 : Int32)).toInt8.toInt32) = m2
  have bm2 : nar .byte m2 = m2 := by rw [← hm2]; exact nar_i2b _
  generalize hm3 : ((ushr x4 (20 : Int32)).toInt8.toInt32) = m3
  have bm3 : nar .byte m3 = m3 := by rw [← hm3]; exact nar_i2b _
  generalize hm4 : ((ushr x4 (24 : Int32)).toInt8.toInt32) = m4
  have bm4 : nar .byte m4 = m4 := by rw [← hm4]; exact nar_i2b _
  refine o_newarrayB C X hZ (hw _ (List.mem_of_getElem? (i := 1) rfl)) e_10 (5) (by decide) (5) (by decide) (by decide) (by decide) (by decide) at_186 188 rfl ?_
  intro T h_11 mk g_mk X e_11 E_11 Amk_11
  have ne_a_mk : a ≠ mk := by rw [g_mk]; exact Nat.ne_of_lt Aa_10.lt
  have ne_b_mk : b ≠ mk := by rw [g_mk]; exact Nat.ne_of_lt Ab_10.lt
  have ge_mk : n0 ≤ mk := by rw [g_mk]; exact Z_10
  have Z_11 : n0 ≤ h_11.size := Nat.le_trans Z_10 E_11.1
  have Aa_11 := Aa_10.ext E_11
  have Ab_11 := Ab_10.ext E_11
  refine o_astore C X at_188 190 rfl rfl #[.val (.int x0), .val (.int x1), .val (.long x2), .second, .val (.long x3), .second, .val (.int x4), .val (.int x5), .val (.int w0), .val (.int w1), .val (.int t0), .val (.ref a), .val (.ref b), .val (.int m0), .val (.int m1), .val (.int m2), .val (.int m3), .val (.int m4), .val (.ref mk)] rfl ?_
  refine o_aload C X at_190 192 rfl rfl rfl ?_
  refine o_iconst C X at_192 193 rfl (0 : Int32) (by decide) ?_
  refine o_iload C X at_193 195 rfl rfl ?_
  refine o_bastore C X hZ e_11 Amk_11 (0) (by decide) (by decide) at_195 196 rfl N0 ge_mk ?_
  intro T h_12 locs_12 X e_12 W_12 N0 Amk_12
  have Aa_12 := Aa_11.other W_12 ne_a_mk
  have Ab_12 := Ab_11.other W_12 ne_b_mk
  have Z_12 : n0 ≤ h_12.size := by rw [W_12.size]; exact Z_11
  refine o_aload C X at_196 198 rfl rfl rfl ?_
  refine o_iconst C X at_198 199 rfl (1 : Int32) (by decide) ?_
  refine o_iload C X at_199 201 rfl rfl ?_
  refine o_bastore C X hZ e_12 Amk_12 (1) (by decide) (by decide) at_201 202 rfl N0 ge_mk ?_
  intro T h_13 locs_13 X e_13 W_13 N0 Amk_13
  have Aa_13 := Aa_12.other W_13 ne_a_mk
  have Ab_13 := Ab_12.other W_13 ne_b_mk
  have Z_13 : n0 ≤ h_13.size := by rw [W_13.size]; exact Z_12
  refine o_aload C X at_202 204 rfl rfl rfl ?_
  refine o_iconst C X at_204 205 rfl (2 : Int32) (by decide) ?_
  refine o_iload C X at_205 207 rfl rfl ?_
  refine o_bastore C X hZ e_13 Amk_13 (2) (by decide) (by decide) at_207 208 rfl N0 ge_mk ?_
  intro T h_14 locs_14 X e_14 W_14 N0 Amk_14
  have Aa_14 := Aa_13.other W_14 ne_a_mk
  have Ab_14 := Ab_13.other W_14 ne_b_mk
  have Z_14 : n0 ≤ h_14.size := by rw [W_14.size]; exact Z_13
  refine o_aload C X at_208 210 rfl rfl rfl ?_
  refine o_iconst C X at_210 211 rfl (3 : Int32) (by decide) ?_
  refine o_iload C X at_211 213 rfl rfl ?_
  refine o_bastore C X hZ e_14 Amk_14 (3) (by decide) (by decide) at_213 214 rfl N0 ge_mk ?_
  intro T h_15 locs_15 X e_15 W_15 N0 Amk_15
  have Aa_15 := Aa_14.other W_15 ne_a_mk
  have Ab_15 := Ab_14.other W_15 ne_b_mk
  have Z_15 : n0 ≤ h_15.size := by rw [W_15.size]; exact Z_14
  refine o_aload C X at_214 216 rfl rfl rfl ?_
  refine o_iconst C X at_216 217 rfl (4 : Int32) (by decide) ?_
  refine o_iload C X at_217 219 rfl rfl ?_
  refine o_bastore C X hZ e_15 Amk_15 (4) (by decide) (by decide) at_219 220 rfl N0 ge_mk ?_
  intro T h_16 locs_16 X e_16 W_16 N0 Amk_16
  have Aa_16 := Aa_15.other W_16 ne_a_mk
  have Ab_16 := Ab_15.other W_16 ne_b_mk
  have Z_16 : n0 ≤ h_16.size := by rw [W_16.size]; exact Z_15
  refine o_aload C X at_220 222 rfl rfl rfl ?_
  refine o_aload C X at_222 224 rfl rfl rfl ?_
  refine o_iload C X at_224 226 rfl rfl ?_
  refine o_iload C X at_226 228 rfl rfl ?_
  refine o_aload C X at_228 230 rfl rfl rfl ?_
  refine o_iload C X at_230 232 rfl rfl ?_
  obtain ⟨fa, hfa_0, Aa_17⟩ : ∃ f : Nat → Int32, (∀ j, j < 4 → nar .byte (f j) = f j) ∧ AI Z h_16 a .byte 4 f := by
    refine ⟨_, ?_, Aa_16⟩
    · intro j hj; (try dsimp only); (repeat' split) <;> first | omega | exact nar_nar _
  obtain ⟨fb, hfb_0, Ab_18⟩ : ∃ f : Nat → Int32, (∀ j, j < 4 → nar .byte (f j) = f j) ∧ AI Z h_16 b .byte 4 f := by
    refine ⟨_, ?_, Ab_16⟩
    · intro j hj; (try dsimp only); (repeat' split) <;> first | omega | exact nar_nar _
  obtain ⟨fm, hfm_0, hfm_1, hfm_2, hfm_3, hfm_4, Amk_19⟩ : ∃ f : Nat → Int32, (f 0 = m0) ∧ (f 1 = m1) ∧ (f 2 = m2) ∧ (f 3 = m3) ∧ (f 4 = m4) ∧ AI Z h_16 mk .byte 5 f := by
    refine ⟨_, ?_, ?_, ?_, ?_, ?_, Amk_16⟩
    · rw [if_neg (by decide), if_neg (by decide), if_neg (by decide), if_neg (by decide), if_pos rfl]; exact bm0
    · rw [if_neg (by decide), if_neg (by decide), if_neg (by decide), if_pos rfl]; exact bm1
    · rw [if_neg (by decide), if_neg (by decide), if_pos rfl]; exact bm2
    · rw [if_neg (by decide), if_pos rfl]; exact bm3
    · rw [if_pos rfl]; exact bm4
  refine o_callS C X hZ (by rw [hml]; rfl) (own := "com/example/sagasu/sagasu/WindowFilterMark209PinLaw") (y := (⟨"com/example/sagasu/sagasu/WindowFilter", "mark", "([B[BBB[BI)V"⟩ : MethodName)) hown (hw _ (List.mem_of_getElem? (i := 6) rfl)) (hw _ (List.mem_of_getElem? (i := 7) rfl)) (hw _ (List.mem_of_getElem? (i := 8) rfl)) (hw _ (List.mem_of_getElem? (i := 9) rfl)) (by decide) (asL := [(.ref a), (.ref b), (.int w0), (.int w1), (.ref mk), (.int t0)]) (rm2 l Z a0 hw a b mk fa fb fm w0 w1 t0 h_16 n n0 hn ht ge_mk ne_a_mk ne_b_mk Aa_17 Ab_18 Amk_19) e_16 pd_1 rfl rfl 0 (Nat.le_of_eq rfl) (by decide) (by decide) (by decide) (by decide) at_232 235 rfl ?_
  rintro T h_20 _ L_20 X e_20 ⟨rfl, N_20, K_20, Amk_20⟩
  have N0 := Fr.app N0 N_20
  have Aa_20 := Aa_17.keep K_20 (ninS ne_a_mk nin0)
  have Ab_20 := Ab_18.keep K_20 (ninS ne_b_mk nin0)
  obtain ⟨fr, hfr, Afr⟩ : ∃ f : Nat → Int32, (∀ j, f j = if j < n then MK (DD fa fb w0 w1 j) else fm j) ∧ AI Z h_20 mk .byte 5 f := ⟨_, fun _ => rfl, Amk_20⟩
  refine o_aload C X at_235 237 rfl rfl rfl ?_
  refine o_iconst C X at_237 238 rfl (0 : Int32) (by decide) ?_
  refine o_baload C X hZ e_20 Afr (0) (by decide) (by decide) at_238 239 rfl ?_
  refine o_iconst C X at_239 240 rfl (0 : Int32) (by decide) ?_
  refine o_iload C X at_240 242 rfl rfl ?_
  refine Ends.via (T := T) (mkF m 250 #[.val (.int x0), .val (.int x1), .val (.long x2), .second, .val (.long x3), .second, .val (.int x4), .val (.int x5), .val (.int w0), .val (.int w1), .val (.int t0), .val (.ref a), .val (.ref b), .val (.int m0), .val (.int m1), .val (.int m2), .val (.int m3), .val (.int m4), .val (.ref mk)] [(.int (if (0 : Int32) < t0 then (1 : Int32) else (0 : Int32))), (.int (fr 0))]) (fun K0 => ?_) ?_
  · skip
    by_cases q9 : (0 : Int32) < t0
    · skip
      refine o_icmpN C X at_242 245 rfl (tlt q9).2.1 ?_
      refine o_iconst C X at_245 246 rfl (1 : Int32) (by decide) ?_
      refine o_goto C X at_246 250 (by decide) (by decide) ?_
      simp only [if_pos q9] at K0
      exact K0
    · skip
      refine o_icmpY C X at_242 249 (by decide) (by decide) (flt q9).2.1 ?_
      refine o_iconst C X at_249 250 rfl (0 : Int32) (by decide) ?_
      simp only [if_neg q9] at K0
      exact K0
  refine o_aload C X at_250 252 rfl rfl rfl ?_
  refine o_iconst C X at_252 253 rfl (0 : Int32) (by decide) ?_
  refine o_baload C X hZ e_20 Aa_20 (0) (by decide) (by decide) at_253 254 rfl ?_
  refine o_aload C X at_254 256 rfl rfl rfl ?_
  refine o_iconst C X at_256 257 rfl (0 : Int32) (by decide) ?_
  refine o_baload C X hZ e_20 Ab_20 (0) (by decide) (by decide) at_257 258 rfl ?_
  refine o_iload C X at_258 260 rfl rfl ?_
  refine o_iload C X at_260 262 rfl rfl ?_
  refine o_iload C X at_262 264 rfl rfl ?_
  refine o_callP C X hZ (by rw [hml]; rfl) (own := "com/example/sagasu/sagasu/WindowFilterMark209PinLaw") (y := (⟨"com/example/sagasu/sagasu/WindowFilterMark209PinLaw", "slot", "(BZBBBBB)Z"⟩ : MethodName)) (rf := 0) (rl := 0) hown (hw _ (List.mem_of_getElem? (i := 10) rfl)) (hw _ (List.mem_of_getElem? (i := 11) rfl)) (hw _ (List.mem_of_getElem? (i := 4) rfl)) (hw _ (List.mem_of_getElem? (i := 12) rfl)) (by decide) (asL := [(.int (fr 0)), (.int (if (0 : Int32) < t0 then (1 : Int32) else (0 : Int32))), (.int (fa 0)), (.int (fb 0)), (.int w0), (.int w1), (.int m0)]) (rm3 l Z a0 hw (fr 0) (if (0 : Int32) < t0 then (1 : Int32) else (0 : Int32)) (fa 0) (fb 0) w0 w1 m0 h_20) e_20 pd_2 rfl rfl 0 (Nat.le_of_eq rfl) (by decide) (by decide) (by decide) (by decide) at_264 267 rfl ?_
  intro T X e_20
  refine o_ifN C X at_267 270 rfl ((if0 _ _).trans (feq (own_slot fa fb fm fr w0 w1 t0 n 0 (0 : Int32) m0 hn ht (hfr 0) (hfa_0 0 (by decide)) (hfb_0 0 (by decide)) bw0 bw1 hfm_0 (by decide) (by decide))).1) ?_
  refine o_aload C X at_270 272 rfl rfl rfl ?_
  refine o_iconst C X at_272 273 rfl (1 : Int32) (by decide) ?_
  refine o_baload C X hZ e_20 Afr (1) (by decide) (by decide) at_273 274 rfl ?_
  refine o_iconst C X at_274 275 rfl (1 : Int32) (by decide) ?_
  refine o_iload C X at_275 277 rfl rfl ?_
  refine Ends.via (T := T) (mkF m 285 #[.val (.int x0), .val (.int x1), .val (.long x2), .second, .val (.long x3), .second, .val (.int x4), .val (.int x5), .val (.int w0), .val (.int w1), .val (.int t0), .val (.ref a), .val (.ref b), .val (.int m0), .val (.int m1), .val (.int m2), .val (.int m3), .val (.int m4), .val (.ref mk)] [(.int (if (1 : Int32) < t0 then (1 : Int32) else (0 : Int32))), (.int (fr 1))]) (fun K0 => ?_) ?_
  · skip
    by_cases q10 : (1 : Int32) < t0
    · skip
      refine o_icmpN C X at_277 280 rfl (tlt q10).2.1 ?_
      refine o_iconst C X at_280 281 rfl (1 : Int32) (by decide) ?_
      refine o_goto C X at_281 285 (by decide) (by decide) ?_
      simp only [if_pos q10] at K0
      exact K0
    · skip
      refine o_icmpY C X at_277 284 (by decide) (by decide) (flt q10).2.1 ?_
      refine o_iconst C X at_284 285 rfl (0 : Int32) (by decide) ?_
      simp only [if_neg q10] at K0
      exact K0
  refine o_aload C X at_285 287 rfl rfl rfl ?_
  refine o_iconst C X at_287 288 rfl (1 : Int32) (by decide) ?_
  refine o_baload C X hZ e_20 Aa_20 (1) (by decide) (by decide) at_288 289 rfl ?_
  refine o_aload C X at_289 291 rfl rfl rfl ?_
  refine o_iconst C X at_291 292 rfl (1 : Int32) (by decide) ?_
  refine o_baload C X hZ e_20 Ab_20 (1) (by decide) (by decide) at_292 293 rfl ?_
  refine o_iload C X at_293 295 rfl rfl ?_
  refine o_iload C X at_295 297 rfl rfl ?_
  refine o_iload C X at_297 299 rfl rfl ?_
  refine o_callP C X hZ (by rw [hml]; rfl) (own := "com/example/sagasu/sagasu/WindowFilterMark209PinLaw") (y := (⟨"com/example/sagasu/sagasu/WindowFilterMark209PinLaw", "slot", "(BZBBBBB)Z"⟩ : MethodName)) (rf := 0) (rl := 0) hown (hw _ (List.mem_of_getElem? (i := 10) rfl)) (hw _ (List.mem_of_getElem? (i := 11) rfl)) (hw _ (List.mem_of_getElem? (i := 4) rfl)) (hw _ (List.mem_of_getElem? (i := 12) rfl)) (by decide) (asL := [(.int (fr 1)), (.int (if (1 : Int32) < t0 then (1 : Int32) else (0 : Int32))), (.int (fa 1)), (.int (fb 1)), (.int w0), (.int w1), (.int m1)]) (rm3 l Z a0 hw (fr 1) (if (1 : Int32) < t0 then (1 : Int32) else (0 : Int32)) (fa 1) (fb 1) w0 w1 m1 h_20) e_20 pd_2 rfl rfl 0 (Nat.le_of_eq rfl) (by decide) (by decide) (by decide) (by decide) at_299 302 rfl ?_
  intro T X e_20
  refine o_ifN C X at_302 305 rfl ((if0 _ _).trans (feq (own_slot fa fb fm fr w0 w1 t0 n 1 (1 : Int32) m1 hn ht (hfr 1) (hfa_0 1 (by decide)) (hfb_0 1 (by decide)) bw0 bw1 hfm_1 (by decide) (by decide))).1) ?_
  refine o_aload C X at_305 307 rfl rfl rfl ?_
  refine o_iconst C X at_307 308 rfl (2 : Int32) (by decide) ?_
  refine o_baload C X hZ e_20 Afr (2) (by decide) (by decide) at_308 309 rfl ?_
  refine o_iconst C X at_309 310 rfl (2 : Int32) (by decide) ?_
  refine o_iload C X at_310 312 rfl rfl ?_
  refine Ends.via (T := T) (mkF m 320 #[.val (.int x0), .val (.int x1), .val (.long x2), .second, .val (.long x3), .second, .val (.int x4), .val (.int x5), .val (.int w0), .val (.int w1), .val (.int t0), .val (.ref a), .val (.ref b), .val (.int m0), .val (.int m1), .val (.int m2), .val (.int m3), .val (.int m4), .val (.ref mk)] [(.int (if (2 : Int32) < t0 then (1 : Int32) else (0 : Int32))), (.int (fr 2))]) (fun K0 => ?_) ?_
  · skip
    by_cases q11 : (2 : Int32) < t0
    · skip
      refine o_icmpN C X at_312 315 rfl (tlt q11).2.1 ?_
      refine o_iconst C X at_315 316 rfl (1 : Int32) (by decide) ?_
      refine o_goto C X at_316 320 (by decide) (by decide) ?_
      simp only [if_pos q11] at K0
      exact K0
    · skip
      refine o_icmpY C X at_312 319 (by decide) (by decide) (flt q11).2.1 ?_
      refine o_iconst C X at_319 320 rfl (0 : Int32) (by decide) ?_
      simp only [if_neg q11] at K0
      exact K0
  refine o_aload C X at_320 322 rfl rfl rfl ?_
  refine o_iconst C X at_322 323 rfl (2 : Int32) (by decide) ?_
  refine o_baload C X hZ e_20 Aa_20 (2) (by decide) (by decide) at_323 324 rfl ?_
  refine o_aload C X at_324 326 rfl rfl rfl ?_
  refine o_iconst C X at_326 327 rfl (2 : Int32) (by decide) ?_
  refine o_baload C X hZ e_20 Ab_20 (2) (by decide) (by decide) at_327 328 rfl ?_
  refine o_iload C X at_328 330 rfl rfl ?_
  refine o_iload C X at_330 332 rfl rfl ?_
  refine o_iload C X at_332 334 rfl rfl ?_
  refine o_callP C X hZ (by rw [hml]; rfl) (own := "com/example/sagasu/sagasu/WindowFilterMark209PinLaw") (y := (⟨"com/example/sagasu/sagasu/WindowFilterMark209PinLaw", "slot", "(BZBBBBB)Z"⟩ : MethodName)) (rf := 0) (rl := 0) hown (hw _ (List.mem_of_getElem? (i := 10) rfl)) (hw _ (List.mem_of_getElem? (i := 11) rfl)) (hw _ (List.mem_of_getElem? (i := 4) rfl)) (hw _ (List.mem_of_getElem? (i := 12) rfl)) (by decide) (asL := [(.int (fr 2)), (.int (if (2 : Int32) < t0 then (1 : Int32) else (0 : Int32))), (.int (fa 2)), (.int (fb 2)), (.int w0), (.int w1), (.int m2)]) (rm3 l Z a0 hw (fr 2) (if (2 : Int32) < t0 then (1 : Int32) else (0 : Int32)) (fa 2) (fb 2) w0 w1 m2 h_20) e_20 pd_2 rfl rfl 0 (Nat.le_of_eq rfl) (by decide) (by decide) (by decide) (by decide) at_334 337 rfl ?_
  intro T X e_20
  refine o_ifN C X at_337 340 rfl ((if0 _ _).trans (feq (own_slot fa fb fm fr w0 w1 t0 n 2 (2 : Int32) m2 hn ht (hfr 2) (hfa_0 2 (by decide)) (hfb_0 2 (by decide)) bw0 bw1 hfm_2 (by decide) (by decide))).1) ?_
  refine o_aload C X at_340 342 rfl rfl rfl ?_
  refine o_iconst C X at_342 343 rfl (3 : Int32) (by decide) ?_
  refine o_baload C X hZ e_20 Afr (3) (by decide) (by decide) at_343 344 rfl ?_
  refine o_iconst C X at_344 345 rfl (3 : Int32) (by decide) ?_
  refine o_iload C X at_345 347 rfl rfl ?_
  refine Ends.via (T := T) (mkF m 355 #[.val (.int x0), .val (.int x1), .val (.long x2), .second, .val (.long x3), .second, .val (.int x4), .val (.int x5), .val (.int w0), .val (.int w1), .val (.int t0), .val (.ref a), .val (.ref b), .val (.int m0), .val (.int m1), .val (.int m2), .val (.int m3), .val (.int m4), .val (.ref mk)] [(.int (if (3 : Int32) < t0 then (1 : Int32) else (0 : Int32))), (.int (fr 3))]) (fun K0 => ?_) ?_
  · skip
    by_cases q12 : (3 : Int32) < t0
    · skip
      refine o_icmpN C X at_347 350 rfl (tlt q12).2.1 ?_
      refine o_iconst C X at_350 351 rfl (1 : Int32) (by decide) ?_
      refine o_goto C X at_351 355 (by decide) (by decide) ?_
      simp only [if_pos q12] at K0
      exact K0
    · skip
      refine o_icmpY C X at_347 354 (by decide) (by decide) (flt q12).2.1 ?_
      refine o_iconst C X at_354 355 rfl (0 : Int32) (by decide) ?_
      simp only [if_neg q12] at K0
      exact K0
  refine o_aload C X at_355 357 rfl rfl rfl ?_
  refine o_iconst C X at_357 358 rfl (3 : Int32) (by decide) ?_
  refine o_baload C X hZ e_20 Aa_20 (3) (by decide) (by decide) at_358 359 rfl ?_
  refine o_aload C X at_359 361 rfl rfl rfl ?_
  refine o_iconst C X at_361 362 rfl (3 : Int32) (by decide) ?_
  refine o_baload C X hZ e_20 Ab_20 (3) (by decide) (by decide) at_362 363 rfl ?_
  refine o_iload C X at_363 365 rfl rfl ?_
  refine o_iload C X at_365 367 rfl rfl ?_
  refine o_iload C X at_367 369 rfl rfl ?_
  refine o_callP C X hZ (by rw [hml]; rfl) (own := "com/example/sagasu/sagasu/WindowFilterMark209PinLaw") (y := (⟨"com/example/sagasu/sagasu/WindowFilterMark209PinLaw", "slot", "(BZBBBBB)Z"⟩ : MethodName)) (rf := 0) (rl := 0) hown (hw _ (List.mem_of_getElem? (i := 10) rfl)) (hw _ (List.mem_of_getElem? (i := 11) rfl)) (hw _ (List.mem_of_getElem? (i := 4) rfl)) (hw _ (List.mem_of_getElem? (i := 12) rfl)) (by decide) (asL := [(.int (fr 3)), (.int (if (3 : Int32) < t0 then (1 : Int32) else (0 : Int32))), (.int (fa 3)), (.int (fb 3)), (.int w0), (.int w1), (.int m3)]) (rm3 l Z a0 hw (fr 3) (if (3 : Int32) < t0 then (1 : Int32) else (0 : Int32)) (fa 3) (fb 3) w0 w1 m3 h_20) e_20 pd_2 rfl rfl 0 (Nat.le_of_eq rfl) (by decide) (by decide) (by decide) (by decide) at_369 372 rfl ?_
  intro T X e_20
  refine o_ifN C X at_372 375 rfl ((if0 _ _).trans (feq (own_slot fa fb fm fr w0 w1 t0 n 3 (3 : Int32) m3 hn ht (hfr 3) (hfa_0 3 (by decide)) (hfb_0 3 (by decide)) bw0 bw1 hfm_3 (by decide) (by decide))).1) ?_
  refine o_aload C X at_375 377 rfl rfl rfl ?_
  refine o_iconst C X at_377 378 rfl (4 : Int32) (by decide) ?_
  refine o_baload C X hZ e_20 Afr (4) (by decide) (by decide) at_378 379 rfl ?_
  refine o_iload C X at_379 381 rfl rfl ?_
  refine o_icmpN C X at_381 384 rfl (teq (by rw [hfr 4, if_neg (by omega)]; exact hfm_4 : (fr 4) = m4)).2 ?_
  refine o_iconst C X at_384 385 rfl (1 : Int32) (by decide) ?_
  refine o_goto C X at_385 389 (by decide) (by decide) ?_
  exact o_retN C X hret (by simp) hlk at_389 ⟨congrArg some (congrArg _ (rfl)), N0⟩ (by decide) (by decide)
set_option maxRecDepth 65536 in
set_option maxHeartbeats 40000000 in
theorem comes_1 {Post : Tables → Env → Array Value → State → Outcome → State → Prop} (hpost : ∀ tb e args s v u, (limb_1_1.after args s (.returned v) u = true ∧ limb_1_2.after args s (.returned v) u = true ∧ True) → FrameEnd s (.returned v) u (Jvm.fieldLocs frame_1_writes args s ++ Jvm.arrayLocs frame_1_arrays args s ++ Jvm.staticLocs frame_1_statics s) 16 128 → Post tb e args s (.returned v) u) :
    ArmFor flags0 classFile x code maxLocals ret World_1 tables_1 room_1 Calls_1 rest_1 Pre_1 Post := by
  intro l hfl _ _ p e ha hc hk s m args below hf hA hF happ hP
  obtain ⟨hcalls, hrest, hpre⟩ := hP
  obtain ⟨-, -, -, hnamed, -, -, -, hat⟩ := (Spec.applies_iff hf).mp happ
  obtain ⟨hg, hn⟩ := and_e (Cond.before_iff.mp (show (Jvm.Cond.and given_1 narrow_1).before args s = true from hpre))
  obtain ⟨g0, g1⟩ := and_e hg
  obtain ⟨w0, w1, w2, w3, w4, w5, rfl⟩ : ∃ w0 w1 w2 w3 w4 w5 : Value, args = #[w0, w1, w2, w3, w4, w5] := by
    have hs : args.size = 6 := by simpa [Cond.value, given_1] using g0
    obtain ⟨L⟩ := args
    match L, hs with
    | [w0, w1, w2, w3, w4, w5], _ => exact ⟨w0, w1, w2, w3, w4, w5, rfl⟩
  have hw := fun d (hd : d ∈ tables_1) => atoms_spec (ws := Jvm.Cond.code x code maxLocals ret :: tables_1) hat d (List.mem_cons_of_mem _ hd)
  have hfit : Fit s := fun {y c} hc i hi => by
    obtain ⟨ha, rfl⟩ := Array.getElem?_eq_some_iff.mp hc
    have q := List.all_eq_true.mp ((Array.all_eq_true_iff_forall_mem.mp hF) _ (Array.getElem_mem ha)) i (List.mem_range.mpr hi)
    simpa [Array.getElem?_eq_getElem hi] using q
  obtain ⟨f0, g1⟩ := and_e g1
  obtain ⟨i0, e0⟩ := is_v f0
  obtain rfl : w0 = (.int i0) := Option.some.inj e0
  obtain ⟨f1, g1⟩ := and_e g1
  obtain ⟨i1, e1⟩ := is_v f1
  obtain rfl : w1 = (.int i1) := Option.some.inj e1
  obtain ⟨f2, g1⟩ := and_e g1
  obtain ⟨i2, e2⟩ := isL_v f2
  obtain rfl : w2 = (.long i2) := Option.some.inj e2
  obtain ⟨f3, g1⟩ := and_e g1
  obtain ⟨i3, e3⟩ := isL_v f3
  obtain rfl : w3 = (.long i3) := Option.some.inj e3
  obtain ⟨f4, g1⟩ := and_e g1
  obtain ⟨i4, e4⟩ := is_v f4
  obtain rfl : w4 = (.int i4) := Option.some.inj e4
  have f5 := g1
  obtain ⟨i5, e5⟩ := is_v f5
  obtain rfl : w5 = (.int i5) := Option.some.inj e5
  obtain ⟨n, o, h1, h2, h3, _, L, rfl, ⟨rfl, N⟩, hq⟩ := rm0 l s _ hw i0 i1 i2 i3 i4 i5 s.heap s.heap.size (Nat.le_refl _) p e ha hc hk s m _ below hf ((Spec.applies_iff_loose hf).mp happ).1 ⟨rfl, State.Warmed39.refl s, rfl⟩ trivial
  exact ⟨n, _, h1, h2, h3, hpost _ _ _ _ _ _ ⟨Cond.after_iff.mpr rfl, Cond.after_iff.mpr (eq_i res_at (Term.int_eval (1)) rfl), trivial⟩ ⟨hq.1, hq.2.1, (hq.2.2.sift fun y hy => Or.inr (N y hy)).mono (by decide) (by decide)⟩⟩
theorem main_1_1 : Claimed_1_1 := comes_1 fun _ _ _ _ _ _ h hF => ⟨h.1, hF⟩
theorem main_1_2 : Claimed_1_2 := comes_1 fun _ _ _ _ _ _ h hF => ⟨h.2.1, hF⟩
end Jvm.Pilot.@@N@@
namespace Jvm.Pilot.@@N@@
open Jvm Jvm.ClassFile Sem Op Lib Jvm.Free Jvm.Stand Jvm.Pilot.@@N@@.Jvm.D
/-! MADE BY PROGRAM (witnessworld.py) out of the Statement's table words and the real class files: 11 classes; the members and pool entries that the words name. The judged class is class 1, her method 1. -/
namespace start1
open Jvm.ClassFile
def u (s : String) : CpInfo := .utf8 (stringToUtf16 s)
/-- a pool by its gaps: so many unusable entries, then the entry; so many at the end -/
def gap : Nat → List CpInfo → List CpInfo
  | 0, r => r
  | n + 1, r => .unusable :: gap n r
def poolList (es : List (Nat × CpInfo)) (last : Nat) : List CpInfo := es.foldr (fun e r => gap e.1 (e.2 :: r)) (gap last [])
def pool (es : List (Nat × CpInfo)) (last : Nat) : Array CpInfo := ⟨poolList es last⟩
def fileOf (pool : Array CpInfo) (this : Nat) (attrs : Array Attribute := #[]) (ms : Array MethodInfo := #[]) (fl : Nat := 33) (sup : Nat := 0) (ifs : Array Nat := #[]) (fds : Array FieldInfo := #[]) : ClassFile where
  minorVersion := 0
  majorVersion := 65
  constantPool := pool
  accessFlags := fl
  thisClass := this
  superClass := sup
  interfaces := ifs
  fields := fds
  methods := ms
  attributes := attrs
def plain (name : String) (sup : Option ClassId) : Class where
  name := name
  kind := .ordinary
  loader := none
  accessFlags := 33
  super := sup
  interfaces := #[]
  cf := none
  fields := #[]
  methods := #[]
  instanceTypes := #[]
  staticTypes := #[]
  resolved := #[]
  callSites := []
  init := .initialized
  statics := none
  mirror := none

def pool0 : Array CpInfo := pool [(5, u "<init>"), (0, u "()V"), (1, .class_ 10), (1, u "java/lang/Object")] 113

def k0m0 : Method := { name := "<init>", desc := "()V", sig := { parameters := [], returnType := none }, accessFlags := 1, code := none }
/-- java/lang/Object -/
def k0 : Class := { plain "java/lang/Object" none with
  accessFlags := 33
  interfaces := #[]
  cf := some (fileOf pool0 8 #[] #[{ accessFlags := 1, nameIndex := 5, descriptorIndex := 6, attributes := #[] }] 33 0 #[] #[])
  fields := #[]
  methods := #[k0m0]
  instanceTypes := #[]
  staticTypes := #[]
  resolved := Array.replicate 124 none
  statics := none }

def pool1 : Array CpInfo := pool [(2, .class_ 4), (1, u "java/lang/Object"), (0, u "<init>"), (0, u "()V"), (0, .integer 2147483647), (0, .methodref 9 10), (0, .class_ 11), (0, .nameAndType 12 13), (0, u "com/example/sagasu/sagasu/WindowFilterMark209PinLaw"), (0, u "pick"), (0, u "(IIBJI)B"), (0, .methodref 15 16), (0, .class_ 17), (0, .nameAndType 18 19), (0, u "com/example/sagasu/sagasu/WindowFilter"), (0, u "mark"), (0, u "([B[BBB[BI)V"), (0, .methodref 9 21), (0, .nameAndType 22 23), (0, u "slot"), (0, u "(BZBBBBB)Z"), (2, u "law"), (0, u "(IIJJII)Z")] 5

def k1m0 : Method := { name := "<init>", desc := "()V", sig := { parameters := [], returnType := none }, accessFlags := 1, code := none }
def k1c1 : Code := { maxStack := 8, maxLocals := 19, code := code, exceptionTable := #[], attributes := #[] }
def k1m1 : Method := { name := "law", desc := "(IIJJII)Z", sig := { parameters := [.int, .int, .long, .long, .int, .int], returnType := some .boolean }, accessFlags := 9, code := some k1c1 }
def k1c2 : Code := { maxStack := 4, maxLocals := 6, code := method_3_code, exceptionTable := #[], attributes := #[] }
def k1m2 : Method := { name := "pick", desc := "(IIBJI)B", sig := { parameters := [.int, .int, .byte, .long, .int], returnType := some .byte }, accessFlags := 10, code := some k1c2 }
def k1c3 : Code := { maxStack := 2, maxLocals := 7, code := method_4_code, exceptionTable := #[], attributes := #[] }
def k1m3 : Method := { name := "slot", desc := "(BZBBBBB)Z", sig := { parameters := [.byte, .boolean, .byte, .byte, .byte, .byte, .byte], returnType := some .boolean }, accessFlags := 10, code := some k1c3 }
/-- com/example/sagasu/sagasu/WindowFilterMark209PinLaw -/
def k1 : Class := { plain "com/example/sagasu/sagasu/WindowFilterMark209PinLaw" (some 0) with
  accessFlags := 49
  interfaces := #[]
  cf := some (fileOf pool1 9 #[] #[{ accessFlags := 1, nameIndex := 5, descriptorIndex := 6, attributes := #[] }, { accessFlags := 9, nameIndex := 26, descriptorIndex := 27, attributes := #[] }, { accessFlags := 10, nameIndex := 12, descriptorIndex := 13, attributes := #[] }, { accessFlags := 10, nameIndex := 22, descriptorIndex := 23, attributes := #[] }] 49 2 #[] #[])
  fields := #[]
  methods := #[k1m0, k1m1, k1m2, k1m3]
  instanceTypes := #[]
  staticTypes := #[]
  resolved := Array.replicate 33 none
  statics := none }

def pool2 : Array CpInfo := pool [(2, .class_ 4), (1, u "com/example/sagasu/sagasu/Search"), (11, .class_ 17), (0, u "java/lang/Object")] 7

/-- com/example/sagasu/sagasu/Search -/
def k2 : Class := { plain "com/example/sagasu/sagasu/Search" (some 0) with
  accessFlags := 1536
  interfaces := #[]
  cf := some (fileOf pool2 2 #[] #[] 1536 16 #[] #[])
  fields := #[]
  methods := #[]
  instanceTypes := #[]
  staticTypes := #[]
  resolved := Array.replicate 25 none
  statics := none }

def pool3 : Array CpInfo := pool [(2, .class_ 4), (1, u "java/lang/Object"), (2, .class_ 8), (0, u "com/example/sagasu/sagasu/BlockScan$Reads"), (4, .class_ 15), (1, u "com/example/sagasu/sagasu/BlockScan"), (0, u "reads"), (0, u "Lcom/example/sagasu/sagasu/BlockScan$Reads;"), (14, u "pattern"), (0, u "[C"), (2, u "ignoresCase"), (0, u "Z"), (2, u "charMasks"), (22, u "patternBytes"), (0, u "[B"), (2, u "byteMasks"), (20, u "turnedBytes"), (7, u "boyerMoore"), (0, u "Lcom/example/sagasu/sagasu/BoyerMoore;"), (0, .class_ 99), (0, u "com/example/sagasu/sagasu/BlockScan$Rest"), (85, .class_ 187), (1, u "com/example/sagasu/sagasu/BlockScan$Walk"), (51, .class_ 241), (1, u "com/example/sagasu/sagasu/BlockScan$Blocks"), (1, u "I"), (31, .class_ 276), (0, u "com/example/sagasu/sagasu/Search"), (0, u "MIN_WINDOWS"), (2, u "MAX_CHARAT_SCAN"), (1, u "DENSE"), (1, u "SAMPLES"), (0, u "OWN_BLOCKS"), (1, u "NEAR"), (1, u "FIRST_BLOCK"), (0, u "BOYER_MOORE_FROM"), (1, u "TRIES"), (0, u "PERIOD_NEAR")] 43

/-- com/example/sagasu/sagasu/BlockScan -/
def k3 : Class := { plain "com/example/sagasu/sagasu/BlockScan" (some 0) with
  accessFlags := 1056
  interfaces := #[2]
  cf := some (fileOf pool3 13 #[.nestMembers #[185, 7, 98, 239]] #[] 1056 2 #[275] #[{ accessFlags := 24, nameIndex := 277, descriptorIndex := 243, attributes := #[] }, { accessFlags := 24, nameIndex := 280, descriptorIndex := 243, attributes := #[] }, { accessFlags := 24, nameIndex := 282, descriptorIndex := 243, attributes := #[] }, { accessFlags := 26, nameIndex := 284, descriptorIndex := 243, attributes := #[] }, { accessFlags := 26, nameIndex := 285, descriptorIndex := 243, attributes := #[] }, { accessFlags := 26, nameIndex := 287, descriptorIndex := 243, attributes := #[] }, { accessFlags := 26, nameIndex := 289, descriptorIndex := 243, attributes := #[] }, { accessFlags := 26, nameIndex := 290, descriptorIndex := 243, attributes := #[] }, { accessFlags := 26, nameIndex := 292, descriptorIndex := 243, attributes := #[] }, { accessFlags := 26, nameIndex := 293, descriptorIndex := 243, attributes := #[] }, { accessFlags := 16, nameIndex := 32, descriptorIndex := 33, attributes := #[] }, { accessFlags := 16, nameIndex := 40, descriptorIndex := 33, attributes := #[] }, { accessFlags := 16, nameIndex := 63, descriptorIndex := 64, attributes := #[] }, { accessFlags := 16, nameIndex := 67, descriptorIndex := 64, attributes := #[] }, { accessFlags := 16, nameIndex := 36, descriptorIndex := 37, attributes := #[] }, { accessFlags := 18, nameIndex := 88, descriptorIndex := 64, attributes := #[] }, { accessFlags := 18, nameIndex := 96, descriptorIndex := 97, attributes := #[] }, { accessFlags := 18, nameIndex := 16, descriptorIndex := 17, attributes := #[] }])
  fields := #[{ name := "MIN_WINDOWS", type := .int, accessFlags := 24, slot := 0, constantValue := 0 }, { name := "MAX_CHARAT_SCAN", type := .int, accessFlags := 24, slot := 1, constantValue := 0 }, { name := "DENSE", type := .int, accessFlags := 24, slot := 2, constantValue := 0 }, { name := "SAMPLES", type := .int, accessFlags := 26, slot := 3, constantValue := 0 }, { name := "OWN_BLOCKS", type := .int, accessFlags := 26, slot := 4, constantValue := 0 }, { name := "NEAR", type := .int, accessFlags := 26, slot := 5, constantValue := 0 }, { name := "FIRST_BLOCK", type := .int, accessFlags := 26, slot := 6, constantValue := 0 }, { name := "BOYER_MOORE_FROM", type := .int, accessFlags := 26, slot := 7, constantValue := 0 }, { name := "TRIES", type := .int, accessFlags := 26, slot := 8, constantValue := 0 }, { name := "PERIOD_NEAR", type := .int, accessFlags := 26, slot := 9, constantValue := 0 }, { name := "pattern", type := (.array .char), accessFlags := 16, slot := 0, constantValue := 0 }, { name := "charMasks", type := (.array .char), accessFlags := 16, slot := 1, constantValue := 0 }, { name := "patternBytes", type := (.array .byte), accessFlags := 16, slot := 2, constantValue := 0 }, { name := "byteMasks", type := (.array .byte), accessFlags := 16, slot := 3, constantValue := 0 }, { name := "ignoresCase", type := .boolean, accessFlags := 16, slot := 4, constantValue := 0 }, { name := "turnedBytes", type := (.array .byte), accessFlags := 18, slot := 5, constantValue := 0 }, { name := "boyerMoore", type := (.object "com/example/sagasu/sagasu/BoyerMoore"), accessFlags := 18, slot := 6, constantValue := 0 }, { name := "reads", type := (.object "com/example/sagasu/sagasu/BlockScan$Reads"), accessFlags := 18, slot := 7, constantValue := 0 }]
  methods := #[]
  instanceTypes := #[(.array .char), (.array .char), (.array .byte), (.array .byte), .boolean, (.array .byte), (.object "com/example/sagasu/sagasu/BoyerMoore"), (.object "com/example/sagasu/sagasu/BlockScan$Reads")]
  staticTypes := #[.int, .int, .int, .int, .int, .int, .int, .int, .int, .int]
  resolved := Array.replicate 337 none
  statics := none }

def pool4 : Array CpInfo := pool [(2, .class_ 4), (1, u "com/example/sagasu/sagasu/WindowFilter"), (3, .class_ 9), (0, u "com/example/sagasu/sagasu/BlockScan"), (2, u "words"), (0, u "[J"), (2, u "inside"), (41, u "used"), (0, u "I"), (2, u "spansWhole"), (0, u "Z"), (2, u "byWords"), (6, u "endsOrder"), (0, u "[I"), (0, .class_ 76), (0, u "com/example/sagasu/sagasu/WindowFilter$Places"), (5, u "atEnds"), (0, u "Lcom/example/sagasu/sagasu/WindowFilter$Places;"), (10, .class_ 95), (0, u "com/example/sagasu/sagasu/WindowFilter$Filter"), (76, u "BLOCK"), (2, u "SPAN"), (1, u "PLACE"), (0, u "D"), (0, u "MAX_SPANNED"), (1, u "MOST_PLACES"), (1, u "MOST_IN_WORDS"), (1, u "CHECKED_WHOLE"), (0, u "ONES"), (0, u "J"), (0, u "LOWS"), (18, u "mark"), (0, u "([B[BBB[BI)V")] 34

def k4c0 : Code := { maxStack := 5, maxLocals := 8, code := prog_64_method_10_code, exceptionTable := #[], attributes := #[] }
def k4m0 : Method := { name := "mark", desc := "([B[BBB[BI)V", sig := { parameters := [(.array .byte), (.array .byte), .byte, .byte, (.array .byte), .int], returnType := none }, accessFlags := 8, code := some k4c0 }
/-- com/example/sagasu/sagasu/WindowFilter -/
def k4 : Class := { plain "com/example/sagasu/sagasu/WindowFilter" (some 3) with
  accessFlags := 32
  interfaces := #[]
  cf := some (fileOf pool4 2 #[.nestMembers #[94, 75]] #[{ accessFlags := 8, nameIndex := 207, descriptorIndex := 208, attributes := #[] }] 32 8 #[] #[{ accessFlags := 26, nameIndex := 172, descriptorIndex := 59, attributes := #[] }, { accessFlags := 26, nameIndex := 175, descriptorIndex := 59, attributes := #[] }, { accessFlags := 26, nameIndex := 177, descriptorIndex := 178, attributes := #[] }, { accessFlags := 26, nameIndex := 179, descriptorIndex := 59, attributes := #[] }, { accessFlags := 26, nameIndex := 181, descriptorIndex := 59, attributes := #[] }, { accessFlags := 24, nameIndex := 183, descriptorIndex := 59, attributes := #[] }, { accessFlags := 26, nameIndex := 185, descriptorIndex := 59, attributes := #[] }, { accessFlags := 26, nameIndex := 186, descriptorIndex := 187, attributes := #[] }, { accessFlags := 26, nameIndex := 188, descriptorIndex := 187, attributes := #[] }, { accessFlags := 18, nameIndex := 12, descriptorIndex := 13, attributes := #[] }, { accessFlags := 18, nameIndex := 16, descriptorIndex := 13, attributes := #[] }, { accessFlags := 18, nameIndex := 58, descriptorIndex := 59, attributes := #[] }, { accessFlags := 18, nameIndex := 62, descriptorIndex := 63, attributes := #[] }, { accessFlags := 18, nameIndex := 73, descriptorIndex := 74, attributes := #[] }, { accessFlags := 18, nameIndex := 82, descriptorIndex := 83, attributes := #[] }, { accessFlags := 18, nameIndex := 66, descriptorIndex := 63, attributes := #[] }])
  fields := #[{ name := "BLOCK", type := .int, accessFlags := 26, slot := 0, constantValue := 0 }, { name := "SPAN", type := .int, accessFlags := 26, slot := 1, constantValue := 0 }, { name := "PLACE", type := .double, accessFlags := 26, slot := 2, constantValue := 0 }, { name := "MAX_SPANNED", type := .int, accessFlags := 26, slot := 3, constantValue := 0 }, { name := "MOST_PLACES", type := .int, accessFlags := 26, slot := 4, constantValue := 0 }, { name := "MOST_IN_WORDS", type := .int, accessFlags := 24, slot := 5, constantValue := 0 }, { name := "CHECKED_WHOLE", type := .int, accessFlags := 26, slot := 6, constantValue := 0 }, { name := "ONES", type := .long, accessFlags := 26, slot := 7, constantValue := 0 }, { name := "LOWS", type := .long, accessFlags := 26, slot := 8, constantValue := 0 }, { name := "words", type := (.array .long), accessFlags := 18, slot := 8, constantValue := 0 }, { name := "inside", type := (.array .long), accessFlags := 18, slot := 9, constantValue := 0 }, { name := "used", type := .int, accessFlags := 18, slot := 10, constantValue := 0 }, { name := "spansWhole", type := .boolean, accessFlags := 18, slot := 11, constantValue := 0 }, { name := "endsOrder", type := (.array .int), accessFlags := 18, slot := 12, constantValue := 0 }, { name := "atEnds", type := (.object "com/example/sagasu/sagasu/WindowFilter$Places"), accessFlags := 18, slot := 13, constantValue := 0 }, { name := "byWords", type := .boolean, accessFlags := 18, slot := 14, constantValue := 0 }]
  methods := #[k4m0]
  instanceTypes := #[(.array .char), (.array .char), (.array .byte), (.array .byte), .boolean, (.array .byte), (.object "com/example/sagasu/sagasu/BoyerMoore"), (.object "com/example/sagasu/sagasu/BlockScan$Reads"), (.array .long), (.array .long), .int, .boolean, (.array .int), (.object "com/example/sagasu/sagasu/WindowFilter$Places"), .boolean]
  staticTypes := #[.int, .int, .double, .int, .int, .int, .int, .long, .long]
  resolved := Array.replicate 243 none
  statics := none }

def pool5 : Array CpInfo := pool [(1, u "java/lang/Cloneable"), (0, .class_ 1), (0, u "java/lang/Object"), (0, .class_ 3)] 3

/-- java/lang/Cloneable -/
def k5 : Class := { plain "java/lang/Cloneable" (some 0) with
  accessFlags := 1537
  interfaces := #[]
  cf := some (fileOf pool5 2 #[] #[] 1537 4 #[] #[])
  fields := #[]
  methods := #[]
  instanceTypes := #[]
  staticTypes := #[]
  resolved := Array.replicate 8 none
  statics := none }

def pool6 : Array CpInfo := pool [(1, u "java/io/Serializable"), (0, .class_ 1), (0, u "java/lang/Object"), (0, .class_ 3)] 3

/-- java/io/Serializable -/
def k6 : Class := { plain "java/io/Serializable" (some 0) with
  accessFlags := 1537
  interfaces := #[]
  cf := some (fileOf pool6 2 #[] #[] 1537 4 #[] #[])
  fields := #[]
  methods := #[]
  instanceTypes := #[]
  staticTypes := #[]
  resolved := Array.replicate 8 none
  statics := none }

/-- the primitive byte -/
def k7 : Class := { plain "byte" none with kind := .primitive 'B', accessFlags := 0x411 }
/-- [B -/
def k8 : Class := { plain "[B" (some 0) with kind := .array 7 .byte, interfaces := #[5, 6], accessFlags := 1041 }

/-- the primitive int -/
def k9 : Class := { plain "int" none with kind := .primitive 'I', accessFlags := 0x411 }
/-- [I -/
def k10 : Class := { plain "[I" (some 0) with kind := .array 9 .int, interfaces := #[5, 6], accessFlags := 1041 }

def heap : Heap := #[]
def classes : Array Class := #[k0, k1, k2, k3, k4, k5, k6, k7, k8, k9, k10]
def interned : List (Array UInt16 × Addr) := []
def slotsUsed : Nat := 0
def theMethod : MethodId := ⟨1, 1⟩
def args0 : Array Value := #[.int 3, .int 3, .long 7, .long 7, .int 3, .int 3]
def aboutOver (below : List Frame) : State where
  vm := { classes := classes, interned := interned.toArray }
  heap := heap
  slotsUsed := slotsUsed
  threads := #[{ frames := .invoking theMethod args0 :: below }]
def below0 : List Frame := [.native { method := ⟨0, 0⟩, args := #[] }]
def about1 : State := aboutOver below0
def p0 : Program := .bare "" "" ""
def e0 : Env := launch0.env 0 0 0
theorem w_frames : about1.frames = Frame.invoking theMethod args0 :: below0 := rfl
set_option maxRecDepth 65536 in
theorem w_args : argsFit about1.vm theMethod args0 = true := by decide +kernel
set_option maxRecDepth 65536 in
theorem w_heap : heapFits about1 = true := by decide +kernel
set_option maxRecDepth 65536 in
theorem w_runnable : about1.curStatus? = some .runnable := by decide +kernel
set_option maxRecDepth 65536 in
theorem w_alone : about1.alone = true := by decide +kernel
set_option maxRecDepth 65536 in
theorem w_named : about1.methodNamed? x = some theMethod := by decide +kernel
set_option maxRecDepth 65536 in
theorem w_hears : about1.hears theMethod below0 = true := by decide +kernel
set_option maxRecDepth 65536 in
theorem w_ripe : about1.ripe theMethod args0 below0 = true := by decide +kernel
theorem w_running : about1.status = .running := rfl
set_option maxRecDepth 65536 in
theorem w_room : about1.hasRoom e0.platform room_1 = true :=
  launch0.hasRoom_least _ room_1 (by decide +kernel) (by decide +kernel) (by decide +kernel) (by decide +kernel) (by decide +kernel) (by decide +kernel)
theorem allAtoms_all (ts : List Jvm.Cond) (a : Array Jvm.Value) (st : Jvm.State) : (allAtoms ts).before a st = ts.all (fun c => c.before a st) := by
  induction ts with
  | nil => rfl
  | cons c t ih =>
    show (Jvm.Cond.and c (allAtoms t)).before a st = _
    rw [Jvm.Cond.before_and, ih, List.all_cons]
def words1 : List Jvm.Cond := Jvm.Cond.code x code maxLocals ret :: tables_1
/-- a 'code' word, met by the world's own term for the bytes: nothing is compared byte by byte -/
theorem code_word {y : MethodName} {bytes : ByteArray} {mx : Nat} {rt : Option FieldType} {a : Array Value} {s : State} {m : MethodId} {meth : Method} {c : Code} (h1 : s.methodNamed? y = some m) (h2 : s.vm.method? m = some meth) (h3 : meth.code = some c) (h4 : c.code = bytes)
    (h5 : (c.maxLocals == mx && c.exceptionTable.isEmpty && decide (c.maxStack ≤ mostOperands) && decide (meth.sig.returnType = rt) && !meth.locks && decide (parseMethodDescriptor y.desc = some meth.sig)) = true) : (Jvm.Cond.code y bytes mx rt).before a s = true := by
  simp only [Bool.and_eq_true, beq_iff_eq, Bool.not_eq_true', decide_eq_true_eq] at h5
  obtain ⟨⟨⟨⟨⟨g1, g2⟩, g3⟩, g4⟩, g5⟩, g6⟩ := h5
  simp [Cond.before, Cond.holds, Cond.value, h1, h2, h3, h4, g1, g2, g3, g4, g5, g6]
def isCode : Jvm.Cond → Bool
  | .code _ _ _ _ => true
  | _ => false
theorem all_split {L : List Jvm.Cond} {P : Jvm.Cond → Bool} (h1 : L.all (fun c => isCode c || P c) = true) (h2 : ∀ c ∈ L.filter isCode, P c = true) : L.all P = true := by
  refine List.all_eq_true.mpr fun c hc => ?_
  have h := List.all_eq_true.mp h1 c hc
  rcases Bool.eq_false_or_eq_true (isCode c) with hi | hi
  · exact h2 c (List.mem_filter.mpr ⟨hc, hi⟩)
  · simpa [hi] using h
set_option maxRecDepth 65536 in
theorem w_c0 : (Jvm.Cond.code x code maxLocals ret).before args0 about1 = true := code_word (m := ⟨1, 1⟩) (meth := k1m1) (c := k1c1) (by decide +kernel) rfl rfl rfl (by decide +kernel)
set_option maxRecDepth 65536 in
theorem w_c1 : (Jvm.Cond.code ({ cls := "com/example/sagasu/sagasu/WindowFilterMark209PinLaw", name := "pick", desc := "(IIBJI)B" } : Jvm.MethodName) method_3_code (6 : Nat) (Option.some Jvm.ClassFile.FieldType.byte)).before args0 about1 = true := code_word (m := ⟨1, 2⟩) (meth := k1m2) (c := k1c2) (by decide +kernel) rfl rfl rfl (by decide +kernel)
set_option maxRecDepth 65536 in
theorem w_c2 : (Jvm.Cond.code ({ cls := "com/example/sagasu/sagasu/WindowFilter", name := "mark", desc := "([B[BBB[BI)V" } : Jvm.MethodName) prog_64_method_10_code (8 : Nat) (Option.none : Option Jvm.ClassFile.FieldType)).before args0 about1 = true := code_word (m := ⟨4, 0⟩) (meth := k4m0) (c := k4c0) (by decide +kernel) rfl rfl rfl (by decide +kernel)
set_option maxRecDepth 65536 in
theorem w_c3 : (Jvm.Cond.code ({ cls := "com/example/sagasu/sagasu/WindowFilterMark209PinLaw", name := "slot", desc := "(BZBBBBB)Z" } : Jvm.MethodName) method_4_code (7 : Nat) (Option.some Jvm.ClassFile.FieldType.boolean)).before args0 about1 = true := code_word (m := ⟨1, 3⟩) (meth := k1m3) (c := k1c3) (by decide +kernel) rfl rfl rfl (by decide +kernel)
def codes1 : List Jvm.Cond := [Jvm.Cond.code x code maxLocals ret, Jvm.Cond.code ({ cls := "com/example/sagasu/sagasu/WindowFilterMark209PinLaw", name := "pick", desc := "(IIBJI)B" } : Jvm.MethodName) method_3_code (6 : Nat) (Option.some Jvm.ClassFile.FieldType.byte), Jvm.Cond.code ({ cls := "com/example/sagasu/sagasu/WindowFilter", name := "mark", desc := "([B[BBB[BI)V" } : Jvm.MethodName) prog_64_method_10_code (8 : Nat) (Option.none : Option Jvm.ClassFile.FieldType), Jvm.Cond.code ({ cls := "com/example/sagasu/sagasu/WindowFilterMark209PinLaw", name := "slot", desc := "(BZBBBBB)Z" } : Jvm.MethodName) method_4_code (7 : Nat) (Option.some Jvm.ClassFile.FieldType.boolean)]
set_option maxRecDepth 65536 in
theorem codes_eq : words1.filter isCode = codes1 := rfl
theorem w_codes : ∀ c ∈ words1.filter isCode, c.before args0 about1 = true := by
  rw [codes_eq]
  intro c hc
  simp only [codes1, List.mem_cons, List.not_mem_nil, or_false] at hc
  rcases hc with rfl | rfl | rfl | rfl
  · exact w_c0
  · exact w_c1
  · exact w_c2
  · exact w_c3
set_option maxRecDepth 65536 in
theorem w_t1 : words1.all (fun c => isCode c || c.before args0 about1) = true := by decide +kernel
theorem w_tables : (allAtoms (Jvm.Cond.code x code maxLocals ret :: tables_1)).before args0 about1 = true := by
  rw [allAtoms_all]
  show words1.all (fun c => c.before args0 about1) = true
  refine all_split ?_ w_codes
  rw [w_t1]
set_option maxRecDepth 65536 in
theorem w_case : (Jvm.Cond.and given_1 narrow_1).before args0 about1 = true := by decide +kernel
theorem w_applies : (headSpec (Jvm.Cond.code x code maxLocals ret :: tables_1) room_1).applies x e0.platform about1 = true :=
  (Spec.applies_iff w_frames).mpr ⟨w_running, w_runnable, w_alone, w_named, w_hears, w_ripe, w_room, w_tables⟩
theorem atStart : AtStart classFile x code maxLocals ret World_1 tables_1 room_1 Calls_1 rest_1 Pre_1 launch0 p0 e0 about1 theMethod args0 below0 :=
  ⟨lists_1, trivial, launch0.admits_env _ _ _, launch0.least_env, fairChoices_fair.cas, fairChoices_fair.clock, w_frames, w_args, w_heap, w_applies, trivial, trivial, w_case⟩
end start1
theorem witness_1 : WitnessClaimed_1 := ⟨start1.p0, start1.e0, start1.about1, start1.theMethod, start1.args0, start1.below0, start1.atStart⟩
end Jvm.Pilot.@@N@@
