import JvmDerived
import JvmDerived.Pilot.@@N@@Statement
import JvmDerived.Pilot.@@N@@Code
set_option linter.unusedVariables false
set_option linter.unusedSimpArgs false
@@BLOCK:NumsL.lean.txt@@
@@BLOCK:Masks.lean.txt@@
namespace Jvm.Wk
open Sem ClassFile Op Lib Jvm.Stand Jvm.Free Jvm.LawKit Jvm.RoadKit
def Fin_ (p : Program) (e : Env) (s : State) (below : List Frame) (R : Room) (n0 : Nat) (P : Option Value → Heap → Prop) (S0 : State) : Prop :=
  ∃ s₂ o, Steps p.tables e below S0 s₂ ∧ s₂.status = .running ∧ Ended s₂ below o ∧ ∃ v L, o = .returned v ∧ (Fr n0 L ∧ P v s₂.heap) ∧ FrameEnd s o s₂ L R.cells R.slots
def Fa (Z : State) (y : MethodName) (bytes : ByteArray) (maxL : Nat) (ret : Option FieldType) (p : Program) (s : State) (m : MethodId) (meth : Method) (c : Code) : Prop :=
  p.tables.exec = Jvm.exec ∧ c.code = bytes ∧ c.maxLocals = maxL ∧ Z.Warmed39 s.vm ∧ s.vm.findClass y.cls = some m.cls ∧ meth.name = y.name ∧ meth.sig.returnType = ret ∧ meth.locks = false
/-- a walk that has come to pc with these locals and this operand stack over the heap h; G: what it is walked for -/
def Wk (l : Launch) (Z : State) (R : Room) (y : MethodName) (bytes : ByteArray) (maxL : Nat) (ret : Option FieldType) (n0 : Nat) (Xt : Program → Env → List Frame → State → Prop) (s : State) (h : Heap) (cells slots pc : Nat) (Ls : Array Slot) (st : List Value) : Prop :=
  ∃ (p : Program) (e : Env) (m : MethodId) (args : Array Value) (below : List Frame) (meth : Method) (c : Code) (S0 T : State) (locs : List Loc), Fa Z y bytes maxL ret p s m meth c ∧
    Stand p l e R s m args below meth c T locs cells slots ∧ T.heap = h ∧ Fr n0 locs ∧ (∀ t, Steps p.tables e below (T.setTop (mkF m pc Ls st)) t → Steps p.tables e below S0 t) ∧ Xt p e below S0
/-- how a walk of a contract ends: G is what it is walked for -/
abbrev Ex (s : State) (R : Room) (n0 : Nat) (P : Option Value → Heap → Prop) (G : Prop) : Program → Env → List Frame → State → Prop := fun p e below S0 => Fin_ p e s below R n0 P S0 → G
/-- a callee's contract: entered with the arguments as' over the heap h0 it returns; P says what and over which heap -/
def Con (l : Launch) (Z : State) (y : MethodName) (bytes : ByteArray) (maxL : Nat) (ret : Option FieldType) (rm : Room) (as' : Array Value) (h0 : Heap) (n0 : Nat) (P : Option Value → Heap → Prop) : Prop :=
  ∀ ws : List Jvm.Cond, MetFree l y (head1 (Jvm.Cond.code y bytes maxL ret :: ws) rm) (fun a U => a = as' ∧ Z.Warmed39 U.vm ∧ U.heap = h0) (fun _ _ _ _ _ => True) (fun _ U o U' => ∃ v L, o = .returned v ∧ (Fr n0 L ∧ P v U'.heap) ∧ FrameEnd U o U' L rm.cells rm.slots)
/-- an array of the component type ty that holds vs -/
def AV (Z : State) (h : Heap) (a : Addr) (ty : FieldType) (vs : List Value) : Prop := vs.length < 2 ^ 31 ∧ ∃ c : Cell, Arr Z h a c ty ∧ c.slots = vs.toArray
section L
variable {l : Launch} {Z : State} {R : Room} {y : MethodName} {bytes : ByteArray} {maxL : Nat} {ret : Option FieldType} {n0 : Nat} {P : Option Value → Heap → Prop} {G : Prop} {Xt : Program → Env → List Frame → State → Prop} {s : State} {h h' : Heap} {cells slots pc : Nat} {Ls : Array Slot} {st : List Value} {a0 : Array Value} {a : Addr} {ty : FieldType} {vs : List Value} {ws : List Addr}
theorem AV.lt (A : AV Z h a ty vs) : a < h.size := by obtain ⟨-, c, A, -⟩ := A; exact A.lt
theorem AV.keep (A : AV Z h a ty vs) (K : Keep h h' ws) (q : a ∉ ws) : AV Z h' a ty vs := by obtain ⟨n, c, A, r⟩ := A; exact ⟨n, c, ⟨K.2.1 a c A.1 q, A.2⟩, r⟩
theorem nS {x y : Nat} {L : List Addr} (q : ¬ x = y) (r : (x : Addr) ∉ L) : (x : Addr) ∉ (y : Addr) :: L := ninS q r
theorem Keep.of_ext (E : Ext h h') : Keep h h' [] := (Keep.refl h []).ext E
theorem mk {p : Program} {e : Env} {m : MethodId} {args : Array Value} {below : List Frame} {meth : Method} {c : Code} {S0 T : State} {locs : List Loc} (F : Fa Z y bytes maxL ret p s m meth c)
    (X : Stand p l e R s m args below meth c T locs cells slots) (eT : T.heap = h) (N : Fr n0 locs) (r : ∀ t, Steps p.tables e below (T.setTop (mkF m pc Ls st)) t → Steps p.tables e below S0 t) (ex : Xt p e below S0) : Wk l Z R y bytes maxL ret n0 Xt s h cells slots pc Ls st :=
  Exists.intro p ⟨e, m, args, below, meth, c, S0, T, locs, F, X, eT, N, r, ex⟩
theorem Con.of {as' : Array Value} (hpn : plainFor y = true) (hef : ∀ m, entryFrame m as' maxL = mkF m 0 Ls []) (body : ∀ (G : Prop) (s : State), Wk l Z R y bytes maxL ret n0 (Ex s R n0 P G) s h 0 0 0 Ls [] → G) : Con l Z y bytes maxL ret R as' h n0 P := by
  intro ws
  refine MetFree.of_bodySF hpn hisR ?_
  intro p e s m args below meth c s₁ Bd hml0 hP hK
  obtain ⟨rfl, hZ, hh⟩ := hP
  refine body _ s ?_
  have X0 : Stand p l e R s m args below meth c s₁ [] 0 0 := Stand.of_body Bd
  exact mk (S0 := s₁.setTop (entryFrame m args maxL)) ⟨Bd.exec, Bd.bytes, hml0, hZ, findClass_of_methodNamed Bd.named, (name_of_methodNamed Bd.named Bd.method).1, Bd.returns, Bd.notSynchronized⟩ X0 (by rw [← hh, Bd.state]; rfl) (Fr.nil n0) (fun t k => castTop (hef m) k) (fun q => q)
theorem Wk.pure {pc' : Nat} {Ls' : Array Slot} {st' : List Value} (k : Wk l Z R y bytes maxL ret n0 Xt s h cells slots pc Ls st) (f : ∀ {tb : Tables} [Ours tb] {e : Env} {below : List Frame} {T t : State} {m : MethodId} {c : Code}, At T m c below → tb.exec = Jvm.exec → c.code = bytes → Steps tb e below (T.setTop (mkF m pc' Ls' st')) t → Steps tb e below (T.setTop (mkF m pc Ls st)) t) : Wk l Z R y bytes maxL ret n0 Xt s h cells slots pc' Ls' st' := by
  obtain ⟨p, e, m, args, below, meth, c, S0, T, locs, F, X, eT, N, r, ex⟩ := k
  exact mk F X eT N (fun t q => r t (f X.here F.1 F.2.1 q)) ex
/-- more cells and slots booked than were made -/
theorem Wk.more {cells' slots' : Nat} (k : Wk l Z R y bytes maxL ret n0 Xt s h cells slots pc Ls st) (h1 : cells ≤ cells') (h2 : slots ≤ slots') : Wk l Z R y bytes maxL ret n0 Xt s h cells' slots' pc Ls st := by
  obtain ⟨p, e, m, args, below, meth, c, S0, T, locs, F, X, eT, N, r, ex⟩ := k
  exact mk F { X with same := X.same.mono h1 h2 } eT N r ex
theorem Wk.aloadN {j : Fin 4} {v : Value} (k : Wk l Z R y bytes maxL ret n0 Xt s h cells slots pc Ls st) (hd : decode bytes pc = .ok (.aload_n j, 1)) (hl : Ls[j.val]? = some (.val v)) (hv : v.isRef = true) : Wk l Z R y bytes maxL ret n0 Xt s h cells slots (pc + 1) Ls (v :: st) := k.pure fun a hx hb' q => XS.aloadN a hx rfl (hb hb' hd) hl hv q
theorem Wk.aload {j : Nat} {v : Value} (k : Wk l Z R y bytes maxL ret n0 Xt s h cells slots pc Ls st) (hd : decode bytes pc = .ok (.aload j, 2)) (hl : Ls[j]? = some (.val v)) (hv : v.isRef = true) : Wk l Z R y bytes maxL ret n0 Xt s h cells slots (pc + 2) Ls (v :: st) := k.pure fun a hx hb' q => XS.aload a hx rfl (hb hb' hd) hl hv q
theorem Wk.iloadN {j : Fin 4} {v : Int32} (k : Wk l Z R y bytes maxL ret n0 Xt s h cells slots pc Ls st) (hd : decode bytes pc = .ok (.iload_n j, 1)) (hl : Ls[j.val]? = some (.val (.int v))) : Wk l Z R y bytes maxL ret n0 Xt s h cells slots (pc + 1) Ls (.int v :: st) := k.pure fun a hx hb' q => XS.iloadN a hx rfl (hb hb' hd) hl q
theorem Wk.iload {j : Nat} {v : Int32} (k : Wk l Z R y bytes maxL ret n0 Xt s h cells slots pc Ls st) (hd : decode bytes pc = .ok (.iload j, 2)) (hl : Ls[j]? = some (.val (.int v))) : Wk l Z R y bytes maxL ret n0 Xt s h cells slots (pc + 2) Ls (.int v :: st) := k.pure fun a hx hb' q => XS.iload a hx rfl (hb hb' hd) hl q
theorem Wk.lloadN {j : Fin 4} {v : Int64} (k : Wk l Z R y bytes maxL ret n0 Xt s h cells slots pc Ls st) (hd : decode bytes pc = .ok (.lload_n j, 1)) (hl : Ls[j.val]? = some (.val (.long v))) : Wk l Z R y bytes maxL ret n0 Xt s h cells slots (pc + 1) Ls (.long v :: st) := k.pure fun a hx hb' q => XT.lloadN a hx rfl (hb hb' hd) hl q
theorem Wk.lload {j : Nat} {v : Int64} (k : Wk l Z R y bytes maxL ret n0 Xt s h cells slots pc Ls st) (hd : decode bytes pc = .ok (.lload j, 2)) (hl : Ls[j]? = some (.val (.long v))) : Wk l Z R y bytes maxL ret n0 Xt s h cells slots (pc + 2) Ls (.long v :: st) := k.pure fun a hx hb' q => XT.lload a hx rfl (hb hb' hd) hl q
theorem Wk.istoreN {j : Fin 4} {v : Int32} {Ls' : Array Slot} (k : Wk l Z R y bytes maxL ret n0 Xt s h cells slots pc Ls (.int v :: st)) (hd : decode bytes pc = .ok (.istore_n j, 1)) (hl : storeLocals Ls j.val (.int v) = some Ls') : Wk l Z R y bytes maxL ret n0 Xt s h cells slots (pc + 1) Ls' st := k.pure fun a hx hb' q => XS.istoreN a hx rfl (hb hb' hd) rfl hl q
theorem Wk.istore {j : Nat} {v : Int32} {Ls' : Array Slot} (k : Wk l Z R y bytes maxL ret n0 Xt s h cells slots pc Ls (.int v :: st)) (hd : decode bytes pc = .ok (.istore j, 2)) (hl : storeLocals Ls j (.int v) = some Ls') : Wk l Z R y bytes maxL ret n0 Xt s h cells slots (pc + 2) Ls' st := k.pure fun a hx hb' q => XS.istore a hx rfl (hb hb' hd) rfl hl q
theorem Wk.lstoreN {j : Fin 4} {v : Int64} {Ls' : Array Slot} (k : Wk l Z R y bytes maxL ret n0 Xt s h cells slots pc Ls (.long v :: st)) (hd : decode bytes pc = .ok (.lstore_n j, 1)) (hl : storeLocals Ls j.val (.long v) = some Ls') : Wk l Z R y bytes maxL ret n0 Xt s h cells slots (pc + 1) Ls' st := k.pure fun a hx hb' q => XT.lstoreN a hx rfl (hb hb' hd) rfl hl q
theorem Wk.lstore {j : Nat} {v : Int64} {Ls' : Array Slot} (k : Wk l Z R y bytes maxL ret n0 Xt s h cells slots pc Ls (.long v :: st)) (hd : decode bytes pc = .ok (.lstore j, 2)) (hl : storeLocals Ls j (.long v) = some Ls') : Wk l Z R y bytes maxL ret n0 Xt s h cells slots (pc + 2) Ls' st := k.pure fun a hx hb' q => XT.lstore a hx rfl (hb hb' hd) rfl hl q
theorem Wk.astoreN {j : Fin 4} {v : Value} {Ls' : Array Slot} (k : Wk l Z R y bytes maxL ret n0 Xt s h cells slots pc Ls (v :: st)) (hd : decode bytes pc = .ok (.astore_n j, 1)) (hv : v.isRef = true) (hl : storeLocals Ls j.val v = some Ls') : Wk l Z R y bytes maxL ret n0 Xt s h cells slots (pc + 1) Ls' st := k.pure fun a hx hb' q => XS.astoreN a hx rfl (hb hb' hd) rfl hv hl q
theorem Wk.astore {j : Nat} {v : Value} {Ls' : Array Slot} (k : Wk l Z R y bytes maxL ret n0 Xt s h cells slots pc Ls (v :: st)) (hd : decode bytes pc = .ok (.astore j, 2)) (hv : v.isRef = true) (hl : storeLocals Ls j v = some Ls') : Wk l Z R y bytes maxL ret n0 Xt s h cells slots (pc + 2) Ls' st := k.pure fun a hx hb' q => XS.astore a hx rfl (hb hb' hd) rfl hv hl q
theorem Wk.iconst {i : Int} (k : Wk l Z R y bytes maxL ret n0 Xt s h cells slots pc Ls st) (v : Int32) (hd : decode bytes pc = .ok (.iconst i, 1)) (hv : Int32.ofInt i = v) : Wk l Z R y bytes maxL ret n0 Xt s h cells slots (pc + 1) Ls (.int v :: st) := k.pure fun a hx hb' q => XT.iconstV a hx rfl v (hb hb' hd) hv q
theorem Wk.bipush {i : Int} (k : Wk l Z R y bytes maxL ret n0 Xt s h cells slots pc Ls st) (v : Int32) (hd : decode bytes pc = .ok (.bipush i, 2)) (hv : (Int8.ofInt i).toInt32 = v) : Wk l Z R y bytes maxL ret n0 Xt s h cells slots (pc + 2) Ls (.int v :: st) := k.pure fun a hx hb' q => XT.bipushV a hx rfl v (hb hb' hd) hv q
theorem Wk.sipush {i : Int} (k : Wk l Z R y bytes maxL ret n0 Xt s h cells slots pc Ls st) (v : Int32) (hd : decode bytes pc = .ok (.sipush i, 3)) (hv : (Int16.ofInt i).toInt32 = v) : Wk l Z R y bytes maxL ret n0 Xt s h cells slots (pc + 3) Ls (.int v :: st) := k.pure fun a hx hb' q => XT.sipushV a hx rfl v (hb hb' hd) hv q
theorem Wk.lconst {i : Fin 2} (k : Wk l Z R y bytes maxL ret n0 Xt s h cells slots pc Ls st) (v : Int64) (hd : decode bytes pc = .ok (.lconst i, 1)) (hv : Int64.ofNat i = v) : Wk l Z R y bytes maxL ret n0 Xt s h cells slots (pc + 1) Ls (.long v :: st) := k.pure fun a hx hb' q => XT.lconstV a hx rfl v (hb hb' hd) hv q
theorem Wk.anull (k : Wk l Z R y bytes maxL ret n0 Xt s h cells slots pc Ls st) (hd : decode bytes pc = .ok (.aconst_null, 1)) : Wk l Z R y bytes maxL ret n0 Xt s h cells slots (pc + 1) Ls (.null :: st) := k.pure fun a hx hb' q => XS.aconstNull a hx rfl (hb hb' hd) q
theorem Wk.iadd {x z : Int32} (k : Wk l Z R y bytes maxL ret n0 Xt s h cells slots pc Ls (.int z :: .int x :: st)) (hd : decode bytes pc = .ok (.iadd, 1)) : Wk l Z R y bytes maxL ret n0 Xt s h cells slots (pc + 1) Ls (.int (x + z) :: st) := k.pure fun a hx hb' q => XS.iadd a hx rfl (hb hb' hd) rfl q
theorem Wk.isub {x z : Int32} (k : Wk l Z R y bytes maxL ret n0 Xt s h cells slots pc Ls (.int z :: .int x :: st)) (hd : decode bytes pc = .ok (.isub, 1)) : Wk l Z R y bytes maxL ret n0 Xt s h cells slots (pc + 1) Ls (.int (x - z) :: st) := k.pure fun a hx hb' q => XS.isub a hx rfl (hb hb' hd) rfl q
theorem Wk.imul {x z : Int32} (k : Wk l Z R y bytes maxL ret n0 Xt s h cells slots pc Ls (.int z :: .int x :: st)) (hd : decode bytes pc = .ok (.imul, 1)) : Wk l Z R y bytes maxL ret n0 Xt s h cells slots (pc + 1) Ls (.int (x * z) :: st) := k.pure fun a hx hb' q => XS.imul a hx rfl (hb hb' hd) rfl q
theorem Wk.iand {x z : Int32} (k : Wk l Z R y bytes maxL ret n0 Xt s h cells slots pc Ls (.int z :: .int x :: st)) (hd : decode bytes pc = .ok (.iand, 1)) : Wk l Z R y bytes maxL ret n0 Xt s h cells slots (pc + 1) Ls (.int (x &&& z) :: st) := k.pure fun a hx hb' q => XS.iand a hx rfl (hb hb' hd) rfl q
theorem Wk.ior {x z : Int32} (k : Wk l Z R y bytes maxL ret n0 Xt s h cells slots pc Ls (.int z :: .int x :: st)) (hd : decode bytes pc = .ok (.ior, 1)) : Wk l Z R y bytes maxL ret n0 Xt s h cells slots (pc + 1) Ls (.int (x ||| z) :: st) := k.pure fun a hx hb' q => XT.ior a hx rfl (hb hb' hd) rfl q
theorem Wk.ixor {x z : Int32} (k : Wk l Z R y bytes maxL ret n0 Xt s h cells slots pc Ls (.int z :: .int x :: st)) (hd : decode bytes pc = .ok (.ixor, 1)) : Wk l Z R y bytes maxL ret n0 Xt s h cells slots (pc + 1) Ls (.int (x ^^^ z) :: st) := k.pure fun a hx hb' q => XT.ixor a hx rfl (hb hb' hd) rfl q
theorem Wk.iushr {x z : Int32} (k : Wk l Z R y bytes maxL ret n0 Xt s h cells slots pc Ls (.int z :: .int x :: st)) (hd : decode bytes pc = .ok (.iushr, 1)) : Wk l Z R y bytes maxL ret n0 Xt s h cells slots (pc + 1) Ls (.int (XT.ushr x z) :: st) := k.pure fun a hx hb' q => XT.iushr a hx rfl (hb hb' hd) rfl q
theorem Wk.ladd {x z : Int64} (k : Wk l Z R y bytes maxL ret n0 Xt s h cells slots pc Ls (.long z :: .long x :: st)) (hd : decode bytes pc = .ok (.ladd, 1)) : Wk l Z R y bytes maxL ret n0 Xt s h cells slots (pc + 1) Ls (.long (x + z) :: st) := k.pure fun a hx hb' q => XT.ladd a hx rfl (hb hb' hd) rfl q
theorem Wk.lsub {x z : Int64} (k : Wk l Z R y bytes maxL ret n0 Xt s h cells slots pc Ls (.long z :: .long x :: st)) (hd : decode bytes pc = .ok (.lsub, 1)) : Wk l Z R y bytes maxL ret n0 Xt s h cells slots (pc + 1) Ls (.long (x - z) :: st) := k.pure fun a hx hb' q => XT.lsub a hx rfl (hb hb' hd) rfl q
theorem Wk.lmul {x z : Int64} (k : Wk l Z R y bytes maxL ret n0 Xt s h cells slots pc Ls (.long z :: .long x :: st)) (hd : decode bytes pc = .ok (.lmul, 1)) : Wk l Z R y bytes maxL ret n0 Xt s h cells slots (pc + 1) Ls (.long (x * z) :: st) := k.pure fun a hx hb' q => XT.lmul a hx rfl (hb hb' hd) rfl q
theorem Wk.land {x z : Int64} (k : Wk l Z R y bytes maxL ret n0 Xt s h cells slots pc Ls (.long z :: .long x :: st)) (hd : decode bytes pc = .ok (.land, 1)) : Wk l Z R y bytes maxL ret n0 Xt s h cells slots (pc + 1) Ls (.long (x &&& z) :: st) := k.pure fun a hx hb' q => XT.land a hx rfl (hb hb' hd) rfl q
theorem Wk.lor {x z : Int64} (k : Wk l Z R y bytes maxL ret n0 Xt s h cells slots pc Ls (.long z :: .long x :: st)) (hd : decode bytes pc = .ok (.lor, 1)) : Wk l Z R y bytes maxL ret n0 Xt s h cells slots (pc + 1) Ls (.long (x ||| z) :: st) := k.pure fun a hx hb' q => XT.lor a hx rfl (hb hb' hd) rfl q
theorem Wk.lxor {x z : Int64} (k : Wk l Z R y bytes maxL ret n0 Xt s h cells slots pc Ls (.long z :: .long x :: st)) (hd : decode bytes pc = .ok (.lxor, 1)) : Wk l Z R y bytes maxL ret n0 Xt s h cells slots (pc + 1) Ls (.long (x ^^^ z) :: st) := k.pure fun a hx hb' q => XT.lxor a hx rfl (hb hb' hd) rfl q
theorem Wk.lcmp {x z : Int64} (k : Wk l Z R y bytes maxL ret n0 Xt s h cells slots pc Ls (.long z :: .long x :: st)) (hd : decode bytes pc = .ok (.lcmp, 1)) : Wk l Z R y bytes maxL ret n0 Xt s h cells slots (pc + 1) Ls (.int (XT.cmpL x z) :: st) := k.pure fun a hx hb' q => XT.lcmp a hx rfl (hb hb' hd) rfl q
theorem Wk.lshl {x : Int64} {z : Int32} (k : Wk l Z R y bytes maxL ret n0 Xt s h cells slots pc Ls (.int z :: .long x :: st)) (hd : decode bytes pc = .ok (.lshl, 1)) : Wk l Z R y bytes maxL ret n0 Xt s h cells slots (pc + 1) Ls (.long (x <<< (z.toInt64 &&& 63)) :: st) := k.pure fun a hx hb' q => XT.lshl a hx rfl (hb hb' hd) rfl q
theorem Wk.lushr {x : Int64} {z : Int32} (k : Wk l Z R y bytes maxL ret n0 Xt s h cells slots pc Ls (.int z :: .long x :: st)) (hd : decode bytes pc = .ok (.lushr, 1)) : Wk l Z R y bytes maxL ret n0 Xt s h cells slots (pc + 1) Ls (.long (XT.ushrL x z) :: st) := k.pure fun a hx hb' q => XT.lushr a hx rfl (hb hb' hd) rfl q
theorem Wk.i2l {x : Int32} (k : Wk l Z R y bytes maxL ret n0 Xt s h cells slots pc Ls (.int x :: st)) (hd : decode bytes pc = .ok (.i2l, 1)) : Wk l Z R y bytes maxL ret n0 Xt s h cells slots (pc + 1) Ls (.long x.toInt64 :: st) := k.pure fun a hx hb' q => XT.i2l a hx rfl (hb hb' hd) rfl q
theorem Wk.l2i {x : Int64} (k : Wk l Z R y bytes maxL ret n0 Xt s h cells slots pc Ls (.long x :: st)) (hd : decode bytes pc = .ok (.l2i, 1)) : Wk l Z R y bytes maxL ret n0 Xt s h cells slots (pc + 1) Ls (.int x.toInt32 :: st) := k.pure fun a hx hb' q => XT.l2i a hx rfl (hb hb' hd) rfl q
theorem Wk.i2b {x : Int32} (k : Wk l Z R y bytes maxL ret n0 Xt s h cells slots pc Ls (.int x :: st)) (hd : decode bytes pc = .ok (.i2b, 1)) : Wk l Z R y bytes maxL ret n0 Xt s h cells slots (pc + 1) Ls (.int x.toInt8.toInt32 :: st) := k.pure fun a hx hb' q => XT.i2b a hx rfl (hb hb' hd) rfl q
theorem Wk.i2c {x : Int32} (k : Wk l Z R y bytes maxL ret n0 Xt s h cells slots pc Ls (.int x :: st)) (hd : decode bytes pc = .ok (.i2c, 1)) : Wk l Z R y bytes maxL ret n0 Xt s h cells slots (pc + 1) Ls (.int x.toUInt32.toUInt16.toUInt32.toInt32 :: st) := k.pure fun a hx hb' q => XT.i2c a hx rfl (hb hb' hd) rfl q
theorem Wk.dup {x : Value} (k : Wk l Z R y bytes maxL ret n0 Xt s h cells slots pc Ls (x :: st)) (hd : decode bytes pc = .ok (.dup, 1)) (hc : x.category = 1) : Wk l Z R y bytes maxL ret n0 Xt s h cells slots (pc + 1) Ls (x :: x :: st) := k.pure fun a hx hb' q => XS.dup a hx rfl (hb hb' hd) rfl hc q
theorem Wk.pop {x : Value} (k : Wk l Z R y bytes maxL ret n0 Xt s h cells slots pc Ls (x :: st)) (hd : decode bytes pc = .ok (.pop, 1)) (hc : x.category = 1) : Wk l Z R y bytes maxL ret n0 Xt s h cells slots (pc + 1) Ls st := k.pure fun a hx hb' q => XT.pop a hx rfl (hb hb' hd) rfl hc q
theorem Wk.iinc {j : Nat} {i : Int} {x : Int32} {Ls' : Array Slot} (k : Wk l Z R y bytes maxL ret n0 Xt s h cells slots pc Ls st) (v : Int32) (hd : decode bytes pc = .ok (.iinc j i, 3)) (hv : Int32.ofInt i = v) (hl : Ls[j]? = some (.val (.int x))) (hl' : storeLocals Ls j (.int (x + v)) = some Ls') : Wk l Z R y bytes maxL ret n0 Xt s h cells slots (pc + 3) Ls' st := k.pure fun a hx hb' q => XT.iincV a hx rfl v (hb hb' hd) hv hl hl' q
theorem Wk.goto {o : Int} {pc' : Nat} (k : Wk l Z R y bytes maxL ret n0 Xt s h cells slots pc Ls st) (hd : decode bytes pc = .ok (.goto o, 3)) (hp : 0 ≤ (pc : Int) + o ∧ ((pc : Int) + o).toNat = pc') : Wk l Z R y bytes maxL ret n0 Xt s h cells slots pc' Ls st := k.pure fun a hx hb' q => XS.goto a hx rfl (pc0 := pc) (pc' := pc') rfl (hb hb' hd) hp.1 hp.2 q
theorem Wk.ifT {x : Int32} {cd : ClassFile.Cond} {o : Int} {pc' : Nat} (k : Wk l Z R y bytes maxL ret n0 Xt s h cells slots pc Ls (.int x :: st)) (hd : decode bytes pc = .ok (.ifCond cd o, 3)) (hc : ifCond.holds cd x = true) (hp : 0 ≤ (pc : Int) + o ∧ ((pc : Int) + o).toNat = pc') : Wk l Z R y bytes maxL ret n0 Xt s h cells slots pc' Ls st := k.pure fun a hx hb' q => XS.ifYes a hx rfl (pc0 := pc) (pc' := pc') rfl (hb hb' hd) rfl hc hp.1 hp.2 q
theorem Wk.ifF {x : Int32} {cd : ClassFile.Cond} {o : Int} (k : Wk l Z R y bytes maxL ret n0 Xt s h cells slots pc Ls (.int x :: st)) (hd : decode bytes pc = .ok (.ifCond cd o, 3)) (hc : ifCond.holds cd x = false) : Wk l Z R y bytes maxL ret n0 Xt s h cells slots (pc + 3) Ls st := k.pure fun a hx hb' q => XS.ifNo a hx rfl (hb hb' hd) rfl hc q
theorem Wk.icT {x z : Int32} {cd : ClassFile.Cond} {o : Int} {pc' : Nat} (k : Wk l Z R y bytes maxL ret n0 Xt s h cells slots pc Ls (.int z :: .int x :: st)) (hd : decode bytes pc = .ok (.if_icmp cd o, 3)) (hc : if_icmp.holds cd x z = true) (hp : 0 ≤ (pc : Int) + o ∧ ((pc : Int) + o).toNat = pc') : Wk l Z R y bytes maxL ret n0 Xt s h cells slots pc' Ls st := k.pure fun a hx hb' q => XS.icmpYes a hx rfl (pc0 := pc) (pc' := pc') rfl (hb hb' hd) rfl hc hp.1 hp.2 q
theorem Wk.icF {x z : Int32} {cd : ClassFile.Cond} {o : Int} (k : Wk l Z R y bytes maxL ret n0 Xt s h cells slots pc Ls (.int z :: .int x :: st)) (hd : decode bytes pc = .ok (.if_icmp cd o, 3)) (hc : if_icmp.holds cd x z = false) : Wk l Z R y bytes maxL ret n0 Xt s h cells slots (pc + 3) Ls st := k.pure fun a hx hb' q => XS.icmpNo a hx rfl (hb hb' hd) rfl hc q
theorem Wk.acT {x z : Value} {cd : ClassFile.ACond} {o : Int} {pc' : Nat} (k : Wk l Z R y bytes maxL ret n0 Xt s h cells slots pc Ls (z :: x :: st)) (hd : decode bytes pc = .ok (.if_acmp cd o, 3)) (h1 : x.isRef = true) (h2 : z.isRef = true) (hc : XT.acmp cd x z = true) (hp : 0 ≤ (pc : Int) + o ∧ ((pc : Int) + o).toNat = pc') : Wk l Z R y bytes maxL ret n0 Xt s h cells slots pc' Ls st := k.pure fun a hx hb' q => XT.acmpYes a hx rfl (pc0 := pc) (pc' := pc') rfl (hb hb' hd) rfl h1 h2 hc hp.1 hp.2 q
theorem Wk.acF {x z : Value} {cd : ClassFile.ACond} {o : Int} (k : Wk l Z R y bytes maxL ret n0 Xt s h cells slots pc Ls (z :: x :: st)) (hd : decode bytes pc = .ok (.if_acmp cd o, 3)) (h1 : x.isRef = true) (h2 : z.isRef = true) (hc : XT.acmp cd x z = false) : Wk l Z R y bytes maxL ret n0 Xt s h cells slots (pc + 3) Ls st := k.pure fun a hx hb' q => XT.acmpNo a hx rfl (hb hb' hd) rfl h1 h2 hc q
theorem Wk.nnT {b : Addr} {o : Int} {pc' : Nat} (k : Wk l Z R y bytes maxL ret n0 Xt s h cells slots pc Ls (.ref b :: st)) (hd : decode bytes pc = .ok (.ifnonnull o, 3)) (hp : 0 ≤ (pc : Int) + o ∧ ((pc : Int) + o).toNat = pc') : Wk l Z R y bytes maxL ret n0 Xt s h cells slots pc' Ls st := k.pure fun a hx hb' q => XT.ifnonnullYes a hx rfl (pc0 := pc) (pc' := pc') rfl (hb hb' hd) rfl hp.1 hp.2 q
theorem Wk.nnF {o : Int} (k : Wk l Z R y bytes maxL ret n0 Xt s h cells slots pc Ls (.null :: st)) (hd : decode bytes pc = .ok (.ifnonnull o, 3)) : Wk l Z R y bytes maxL ret n0 Xt s h cells slots (pc + 3) Ls st := k.pure fun a hx hb' q => XT.ifnonnullNo a hx rfl (hb hb' hd) rfl q
theorem Wk.irem {x z : Int32} (k : Wk l Z R y bytes maxL ret n0 Xt s h cells slots pc Ls (.int z :: .int x :: st)) (hd : decode bytes pc = .ok (.irem, 1)) (hz : z ≠ 0) : Wk l Z R y bytes maxL ret n0 Xt s h cells slots (pc + 1) Ls (.int (x % z) :: st) := by
  obtain ⟨p, e, m, args, below, meth, c, S0, T, locs, F, X, eT, N, r, ex⟩ := k
  exact mk F X eT N (fun t q => r t (iremM X F.1 rfl (hb F.2.1 hd) rfl hz q)) ex
theorem Wk.ldc {i : Nat} {v : Int32} (k : Wk l Z R y bytes maxL ret n0 Xt s h cells slots pc Ls st) (w : (Jvm.Cond.constant y.cls i v).before a0 Z = true) (hd : decode bytes pc = .ok (.ldc i, 2)) : Wk l Z R y bytes maxL ret n0 Xt s h cells slots (pc + 2) Ls (.int v :: st) := by
  obtain ⟨p, e, m, args, below, meth, c, S0, T, locs, F, X, eT, N, r, ex⟩ := k
  exact mk F X eT N (fun t q => r t (X.ldcI F.1 F.2.2.2.2.1 (mvT F.2.2.2.1 w) rfl (hb F.2.1 hd) q)) ex
theorem Wk.ldc2 {i : Nat} {v : Int64} (k : Wk l Z R y bytes maxL ret n0 Xt s h cells slots pc Ls st) (w : (Jvm.Cond.constantLong y.cls i v).before a0 Z = true) (hd : decode bytes pc = .ok (.ldc2_w i, 3)) : Wk l Z R y bytes maxL ret n0 Xt s h cells slots (pc + 3) Ls (.long v :: st) := by
  obtain ⟨p, e, m, args, below, meth, c, S0, T, locs, F, X, eT, N, r, ex⟩ := k
  exact mk F X eT N (fun t q => r t (X.ldc2J F.1 F.2.2.2.2.1 (mvT F.2.2.2.1 w) rfl (hb F.2.1 hd) q)) ex
theorem Wk.getF {i : Nat} {O n d : String} {v : Value} (k : Wk l Z R y bytes maxL ret n0 Xt s h cells slots pc Ls (.ref a :: st)) (w : (Jvm.Cond.fieldLink y.cls i O n d).before a0 Z = true) (A : Fld Z h a O n d v) (hd : decode bytes pc = .ok (.getfield i, 3)) : Wk l Z R y bytes maxL ret n0 Xt s h cells slots (pc + 3) Ls (v :: st) := by
  obtain ⟨p, e, m, args, below, meth, c, S0, T, locs, F, X, eT, N, r, ex⟩ := k
  obtain ⟨T', X', e', q⟩ := RoadKit.getF X F.1 F.2.2.2.1 F.2.2.2.2.1 (host := "") (Or.inl w) Via.refl eT A (g := mkF m pc Ls (.ref a :: st)) rfl rfl (hb F.2.1 hd)
  exact mk F X' e' N (fun t u => r t (q t u)) ex
theorem Wk.getS {i : Nat} {O n d : String} {v : Value} (k : Wk l Z R y bytes maxL ret n0 Xt s h cells slots pc Ls st) (w : (Jvm.Cond.fieldLink y.cls i O n d).before a0 Z = true) (A : Sta Z h O n d v) (hd : decode bytes pc = .ok (.getstatic i, 3)) : Wk l Z R y bytes maxL ret n0 Xt s h cells slots (pc + 3) Ls (v :: st) := by
  obtain ⟨p, e, m, args, below, meth, c, S0, T, locs, F, X, eT, N, r, ex⟩ := k
  obtain ⟨T', X', e', q⟩ := RoadKit.getS X F.1 F.2.2.2.1 F.2.2.2.2.1 (host := "") w Via.refl eT A (g := mkF m pc Ls st) rfl (hb F.2.1 hd)
  exact mk F X' e' N (fun t u => r t (q t u)) ex
theorem Wk.putF {i kk : Nat} {O n d C : String} {v old : Value} (k : Wk l Z R y bytes maxL ret n0 Xt s h cells slots pc Ls (v :: .ref a :: st)) (w : (Jvm.Cond.fieldLink y.cls i O n d).before a0 Z = true) (A : Fld Z h a O n d old) (E : Exa Z h a C)
    (L : (Jvm.Cond.lays C O n d).before a0 Z = true ∨ ((Jvm.Cond.laysFinal C O n d).before a0 Z = true ∧ y.cls = O ∧ y.name = "<init>")) (wi : (Jvm.Cond.instantiable C kk).before a0 Z = true)
    (hty : parseFieldDescriptor d = some ty) (hn : narrow ty v = v) (hf : fits ty v = true) (hg : n0 ≤ a) (hd : decode bytes pc = .ok (.putfield i, 3)) :
    ∃ h', Wr h h' a (RoadKit.slotOf Z O n d) v ∧ Keep h h' [a] ∧ Fld Z h' a O n d v ∧ Exa Z h' a C ∧ Wk l Z R y bytes maxL ret n0 Xt s h' cells slots (pc + 3) Ls st := by
  obtain ⟨p, e, m, args, below, meth, c, S0, T, locs, F, X, eT, N, r, ex⟩ := k
  obtain ⟨T', h', X', e', W1, q⟩ := RoadKit.putF X F.1 F.2.2.2.1 F.2.2.2.2.1 (host := "") (Or.inl w) Via.refl eT A E (L.imp id fun z => ⟨z.1, z.2.1, F.2.2.2.2.2.1.trans z.2.2⟩) wi hty hn hf (g := mkF m pc Ls (v :: .ref a :: st)) rfl rfl (hb F.2.1 hd)
  exact ⟨h', W1, Keep.of_wr W1, A.same W1, E.wr W1, mk F X' e' (Fr.snoc X' N hg) (fun t u => r t (q t u)) ex⟩
theorem Wk.newO {i n : Nat} {C : String} (k : Wk l Z R y bytes maxL ret n0 Xt s h cells slots pc Ls st) (w : (Jvm.Cond.classLink y.cls i C).before a0 Z = true) (wi : (Jvm.Cond.instantiable C n).before a0 Z = true) (wz : (Jvm.Cond.initialized C).before a0 Z = true) (hd : decode bytes pc = .ok (.new i, 3)) (hc : cells + 1 ≤ R.cells) (hl : slots + n ≤ R.slots) :
    ∃ h', Keep h h' [] ∧ Exa Z h' h.size C ∧ (∀ {O nm d : String} {ty : FieldType}, Laid Z a0 C O nm d → parseFieldDescriptor d = some ty → Fld Z h' h.size O nm d (defaultValue ty)) ∧ Wk l Z R y bytes maxL ret n0 Xt s h' (cells + 1) (slots + n) (pc + 3) Ls (.ref h.size :: st) := by
  obtain ⟨p, e, m, args, below, meth, c, S0, T, locs, F, X, eT, N, r, ex⟩ := k
  obtain ⟨T', h', X', e', E, A, D, -, q⟩ := RoadKit.newO X F.1 F.2.2.2.1 F.2.2.2.2.1 w wi wz eT (g := mkF m pc Ls st) rfl (hb F.2.1 hd) hc hl
  exact ⟨h', Keep.of_ext E, A, D, mk F X' e' N (fun t u => r t (q t u)) ex⟩
theorem Wk.newA {n : Int32} {aty : ArrayType} (k : Wk l Z R y bytes maxL ret n0 Xt s h cells slots pc Ls (.int n :: st)) (w : (Jvm.Cond.arrayClass (newarray.typeOf aty)).before a0 Z = true) (hd : decode bytes pc = .ok (.newarray aty, 2)) (n' : Nat) (hN : n.toNatClampNeg = n') (hn : ¬ n < 0) (hm : n' ≤ 1000) (hc : cells + 1 ≤ R.cells) (hl : slots + n' ≤ R.slots) :
    ∃ h', Keep h h' [] ∧ AV Z h' h.size (newarray.typeOf aty) (List.replicate n' (defaultValue (newarray.typeOf aty))) ∧ Wk l Z R y bytes maxL ret n0 Xt s h' (cells + 1) (slots + n') (pc + 2) Ls (.ref h.size :: st) := by
  obtain ⟨p, e, m, args, below, meth, c, S0, T, locs, F, X, eT, N, r, ex⟩ := k
  obtain ⟨T', h', cA, X', e', E, A, q⟩ := newP X F.1 F.2.2.2.1 w eT (g := mkF m pc Ls (.int n :: st)) rfl (hb F.2.1 hd) rfl hn (cap := n') (Nat.le_of_eq hN) (by omega) hc hl
  refine ⟨h', Keep.of_ext E, ⟨by rw [List.length_replicate]; omega, _, A, ?_⟩, mk F X' e' N (fun t u => r t (q t u)) ex⟩
  subst hN; rfl
theorem AV.inb {c : Cell} {j : Int32} {i : Nat} (e : c.slots = vs.toArray) (h0 : ¬ j < 0) (hj : j.toNatClampNeg = i) (hi : i < vs.length) : ¬ (j < 0 ∨ c.slots.size ≤ j.toNatClampNeg) := by
  rintro (q | q)
  · exact h0 q
  · rw [e, hj, List.size_toArray] at q; omega
theorem AV.set {c : Cell} {i : Nat} {v : Value} (e : c.slots = vs.toArray) : (c.setSlot i v).slots = (vs.set i v).toArray := by
  show c.slots.setIfInBounds i v = _
  rw [e, List.setIfInBounds_toArray]
theorem Wk.stI {x j : Int32} (k : Wk l Z R y bytes maxL ret n0 Xt s h cells slots pc Ls (.int x :: .int j :: .ref a :: st)) (A : AV Z h a .int vs) (i : Nat) (hj : j.toNatClampNeg = i) (h0 : ¬ j < 0) (hi : i < vs.length) (hg : n0 ≤ a) (hd : decode bytes pc = .ok (.iastore, 1)) :
    ∃ h', Keep h h' [a] ∧ AV Z h' a .int (vs.set i (.int (x))) ∧ Wk l Z R y bytes maxL ret n0 Xt s h' cells slots (pc + 1) Ls st := by
  obtain ⟨p, e, m, args, below, meth, c, S0, T, locs, F, X, eT, N, r, ex⟩ := k
  obtain ⟨hlen, cl, A, hcl⟩ := A
  obtain ⟨T', h', X', e', W1, q⟩ := RoadKit.stI X F.1 F.2.2.2.1 eT A (AV.inb hcl h0 hj hi) (g := mkF m pc Ls (.int x :: .int j :: .ref a :: st)) rfl rfl (hb F.2.1 hd)
  refine ⟨h', Keep.of_wr W1, ⟨by rw [List.length_set]; exact hlen, _, A.same W1, ?_⟩, mk F X' e' (Fr.snoc X' N hg) (fun t u => r t (q t u)) ex⟩
  rw [hj]; exact AV.set hcl
theorem Wk.stB {x j : Int32} (k : Wk l Z R y bytes maxL ret n0 Xt s h cells slots pc Ls (.int x :: .int j :: .ref a :: st)) (A : AV Z h a .byte vs) (i : Nat) (hj : j.toNatClampNeg = i) (h0 : ¬ j < 0) (hi : i < vs.length) (hg : n0 ≤ a) (hd : decode bytes pc = .ok (.bastore, 1)) :
    ∃ h', Keep h h' [a] ∧ AV Z h' a .byte (vs.set i (.int (nar .byte x))) ∧ Wk l Z R y bytes maxL ret n0 Xt s h' cells slots (pc + 1) Ls st := by
  obtain ⟨p, e, m, args, below, meth, c, S0, T, locs, F, X, eT, N, r, ex⟩ := k
  obtain ⟨hlen, cl, A, hcl⟩ := A
  obtain ⟨T', h', X', e', W1, q⟩ := RoadKit.stB X F.1 F.2.2.2.1 eT A (AV.inb hcl h0 hj hi) (g := mkF m pc Ls (.int x :: .int j :: .ref a :: st)) rfl rfl (hb F.2.1 hd)
  refine ⟨h', Keep.of_wr W1, ⟨by rw [List.length_set]; exact hlen, _, A.same W1, ?_⟩, mk F X' e' (Fr.snoc X' N hg) (fun t u => r t (q t u)) ex⟩
  rw [hj]; exact AV.set hcl
theorem Wk.stC {x j : Int32} (k : Wk l Z R y bytes maxL ret n0 Xt s h cells slots pc Ls (.int x :: .int j :: .ref a :: st)) (A : AV Z h a .char vs) (i : Nat) (hj : j.toNatClampNeg = i) (h0 : ¬ j < 0) (hi : i < vs.length) (hg : n0 ≤ a) (hd : decode bytes pc = .ok (.castore, 1)) :
    ∃ h', Keep h h' [a] ∧ AV Z h' a .char (vs.set i (.int (nar .char x))) ∧ Wk l Z R y bytes maxL ret n0 Xt s h' cells slots (pc + 1) Ls st := by
  obtain ⟨p, e, m, args, below, meth, c, S0, T, locs, F, X, eT, N, r, ex⟩ := k
  obtain ⟨hlen, cl, A, hcl⟩ := A
  obtain ⟨T', h', X', e', W1, q⟩ := RoadKit.stC X F.1 F.2.2.2.1 eT A (AV.inb hcl h0 hj hi) (g := mkF m pc Ls (.int x :: .int j :: .ref a :: st)) rfl rfl (hb F.2.1 hd)
  refine ⟨h', Keep.of_wr W1, ⟨by rw [List.length_set]; exact hlen, _, A.same W1, ?_⟩, mk F X' e' (Fr.snoc X' N hg) (fun t u => r t (q t u)) ex⟩
  rw [hj]; exact AV.set hcl
theorem Wk.ldI {j : Int32} {v : Value} (k : Wk l Z R y bytes maxL ret n0 Xt s h cells slots pc Ls (.int j :: .ref a :: st)) (A : AV Z h a .int vs) (h0 : ¬ j < 0) (hv : vs[j.toNatClampNeg]? = some v) (hd : decode bytes pc = .ok (.iaload, 1)) : Wk l Z R y bytes maxL ret n0 Xt s h cells slots (pc + 1) Ls (v :: st) := by
  obtain ⟨p, e, m, args, below, meth, c, S0, T, locs, F, X, eT, N, r, ex⟩ := k
  obtain ⟨hlen, cl, A, hcl⟩ := A
  have hi : j.toNatClampNeg < vs.length := (List.getElem?_eq_some_iff.mp hv).1
  exact mk F X eT N (fun t u => r t (X.iaload F.1 (j := j) (v := v) (by rw [eT]; exact A.1) (State.isArrayOf_alike F.2.2.2.1.alike A.2.1) A.2.2 (AV.inb hcl h0 rfl hi) (by rw [hcl, List.getElem?_toArray]; exact hv) (g := mkF m pc Ls (.int j :: .ref a :: st)) rfl rfl (hb F.2.1 hd) t u)) ex
theorem Wk.ldB {j : Int32} {v : Value} (k : Wk l Z R y bytes maxL ret n0 Xt s h cells slots pc Ls (.int j :: .ref a :: st)) (A : AV Z h a .byte vs) (h0 : ¬ j < 0) (hv : vs[j.toNatClampNeg]? = some v) (hd : decode bytes pc = .ok (.baload, 1)) : Wk l Z R y bytes maxL ret n0 Xt s h cells slots (pc + 1) Ls (v :: st) := by
  obtain ⟨p, e, m, args, below, meth, c, S0, T, locs, F, X, eT, N, r, ex⟩ := k
  obtain ⟨hlen, cl, A, hcl⟩ := A
  have hi : j.toNatClampNeg < vs.length := (List.getElem?_eq_some_iff.mp hv).1
  exact mk F X eT N (fun t u => r t (X.baloadBytes F.1 (j := j) (v := v) (by rw [eT]; exact A.1) (State.isArrayOf_alike F.2.2.2.1.alike A.2.1) A.2.2 (AV.inb hcl h0 rfl hi) (by rw [hcl, List.getElem?_toArray]; exact hv) (g := mkF m pc Ls (.int j :: .ref a :: st)) rfl rfl (hb F.2.1 hd) t u)) ex
theorem Wk.ldC {j : Int32} {v : Value} (k : Wk l Z R y bytes maxL ret n0 Xt s h cells slots pc Ls (.int j :: .ref a :: st)) (A : AV Z h a .char vs) (h0 : ¬ j < 0) (hv : vs[j.toNatClampNeg]? = some v) (hd : decode bytes pc = .ok (.caload, 1)) : Wk l Z R y bytes maxL ret n0 Xt s h cells slots (pc + 1) Ls (v :: st) := by
  obtain ⟨p, e, m, args, below, meth, c, S0, T, locs, F, X, eT, N, r, ex⟩ := k
  obtain ⟨hlen, cl, A, hcl⟩ := A
  have hi : j.toNatClampNeg < vs.length := (List.getElem?_eq_some_iff.mp hv).1
  exact mk F X eT N (fun t u => r t (X.caload F.1 (j := j) (v := v) (by rw [eT]; exact A.1) (State.isArrayOf_alike F.2.2.2.1.alike A.2.1) A.2.2 (AV.inb hcl h0 rfl hi) (by rw [hcl, List.getElem?_toArray]; exact hv) (g := mkF m pc Ls (.int j :: .ref a :: st)) rfl rfl (hb F.2.1 hd) t u)) ex
theorem Wk.len {n : Int32} (k : Wk l Z R y bytes maxL ret n0 Xt s h cells slots pc Ls (.ref a :: st)) (A : AV Z h a ty vs) (hn : vs.length.toInt32 = n) (hd : decode bytes pc = .ok (.arraylength, 1)) : Wk l Z R y bytes maxL ret n0 Xt s h cells slots (pc + 1) Ls (.int n :: st) := by
  obtain ⟨p, e, m, args, below, meth, c, S0, T, locs, F, X, eT, N, r, ex⟩ := k
  obtain ⟨hlen, cl, A, hcl⟩ := A
  have e : cl.slots.size.toInt32 = n := by rw [hcl, List.size_toArray]; exact hn
  exact mk F X eT N (fun t u => r t (X.arraylength F.1 (cell := cl) (by rw [eT]; exact A.1) (State.isArrayOf_alike F.2.2.2.1.alike A.2.1) (g := mkF m pc Ls (.ref a :: st)) rfl rfl (hb F.2.1 hd) t (by rw [e]; exact u))) ex
theorem Wk.callS {i : Nat} {y' : MethodName} {bytes' : ByteArray} {maxL' : Nat} {ret' : Option FieldType} {rm : Room} {P' : Option Value → Heap → Prop} {argsL rest : List Value} (k : Wk l Z R y bytes maxL ret n0 Xt s h cells slots pc Ls st) (wl : (Jvm.Cond.methodLink y.cls i y').before a0 Z = true) (wt : (Jvm.Cond.static y').before a0 Z = true) (wi : (Jvm.Cond.initialized y'.cls).before a0 Z = true) (wc : (Jvm.Cond.code y' bytes' maxL' ret').before a0 Z = true)
    (hy : y'.cls ≠ "java/lang/invoke/MethodHandle" ∧ y'.cls ≠ "java/lang/invoke/VarHandle") (hC : Con l Z y' bytes' maxL' ret' rm argsL.toArray h n0 P') (hlen : ∀ sig, parseMethodDescriptor y'.desc = some sig → argsL.length = sig.parameters.length)
    (hd : decode bytes pc = .ok (.invokestatic i, 3)) (hst : st = argsL.reverse ++ rest) (hL : Ls.size = maxL) (W0 : Nat) (hW : (rest.map fun v => v.category).sum ≤ W0) (hf : rm.frames + 1 ≤ R.frames) (hl : W0 + (maxL' + 11) + rm.locals ≤ R.locals) (hc : cells + rm.cells ≤ R.cells) (hs : slots + rm.slots ≤ R.slots) : ∃ v h', P' v h' ∧ Wk l Z R y bytes maxL ret n0 Xt s h' (cells + rm.cells) (slots + rm.slots) (pc + 3) Ls (v.toList ++ rest) := by
  obtain ⟨p, e, m, args, below, meth, c, S0, T, locs, F, X, eT, N, r, ex⟩ := k
  obtain ⟨v, vm₁, ⟨T', L', k', n'⟩, -, X', ⟨Lc, hQ, l1, y1, z1⟩, q⟩ := Jvm.LawKit.callS X F.1 (y := y') F.2.2.2.2.1 (mvT F.2.2.2.1 wl) (mvT F.2.2.2.1 wt) (mvT F.2.2.2.1 wi) (mvT F.2.2.2.1 wc) hy (backOf (W := W0) (Q := fun v h L => Fr n0 L ∧ P' v h) (hC []) F.2.2.2.1 wc wi hf hl) (g := mkF m pc Ls st) rfl (by rw [F.2.2.1]; exact hL) (argsL := argsL) (rest := rest) hlen hst (by show 2 * 0 + _ ≤ _; omega) (hb F.2.1 hd) (fun _ _ => ⟨rfl, eT, hc, hs⟩)
  dsimp only [Pt.U, Pt.locs, Pt.cells, Pt.slots] at X' l1 y1 z1 q hQ
  subst l1 y1 z1
  exact ⟨v, T'.heap, hQ.2, mk F X' rfl (Fr.app N hQ.1) (fun t u => r t (q t u)) ex⟩
theorem Wk.callSN {i : Nat} {y' : MethodName} {bytes' : ByteArray} {maxL' : Nat} {ret' : Option FieldType} {rm : Room} {P' : Option Value → Heap → Prop} {argsL rest : List Value} {host : String} (k : Wk l Z R y bytes maxL ret n0 Xt s h cells slots pc Ls st) (wl : (Jvm.Cond.methodLinkNest y.cls i y' host).before a0 Z = true) (wt : (Jvm.Cond.static y').before a0 Z = true) (wi : (Jvm.Cond.initialized y'.cls).before a0 Z = true) (wc : (Jvm.Cond.code y' bytes' maxL' ret').before a0 Z = true)
    (hy : y'.cls ≠ "java/lang/invoke/MethodHandle" ∧ y'.cls ≠ "java/lang/invoke/VarHandle") (hC : Con l Z y' bytes' maxL' ret' rm argsL.toArray h n0 P') (hlen : ∀ sig, parseMethodDescriptor y'.desc = some sig → argsL.length = sig.parameters.length)
    (hd : decode bytes pc = .ok (.invokestatic i, 3)) (hst : st = argsL.reverse ++ rest) (hL : Ls.size = maxL) (W0 : Nat) (hW : (rest.map fun v => v.category).sum ≤ W0) (hf : rm.frames + 1 ≤ R.frames) (hl : W0 + (maxL' + 11) + rm.locals ≤ R.locals) (hc : cells + rm.cells ≤ R.cells) (hs : slots + rm.slots ≤ R.slots) : ∃ v h', P' v h' ∧ Wk l Z R y bytes maxL ret n0 Xt s h' (cells + rm.cells) (slots + rm.slots) (pc + 3) Ls (v.toList ++ rest) := by
  obtain ⟨p, e, m, args, below, meth, c, S0, T, locs, F, X, eT, N, r, ex⟩ := k
  obtain ⟨v, vm₁, ⟨T', L', k', n'⟩, -, X', ⟨Lc, hQ, l1, y1, z1⟩, q⟩ := RoadKit.callSN X F.1 (y := y') F.2.2.2.2.1 (Jvm.Cond.methodLinkNest_wide F.2.2.2.1 wl :) (mvT F.2.2.2.1 wt) (mvT F.2.2.2.1 wi) (mvT F.2.2.2.1 wc) hy (backOf (W := W0) (Q := fun v h L => Fr n0 L ∧ P' v h) (hC []) F.2.2.2.1 wc wi hf hl) (g := mkF m pc Ls st) rfl (by rw [F.2.2.1]; exact hL) (argsL := argsL) (rest := rest) hlen hst (by show 2 * 0 + _ ≤ _; omega) (hb F.2.1 hd) (fun _ _ => ⟨rfl, eT, hc, hs⟩)
  dsimp only [Pt.U, Pt.locs, Pt.cells, Pt.slots] at X' l1 y1 z1 q hQ
  subst l1 y1 z1
  exact ⟨v, T'.heap, hQ.2, mk F X' rfl (Fr.app N hQ.1) (fun t u => r t (q.trans u)) ex⟩
theorem Wk.callN {i : Nat} {y' : MethodName} {bytes' : ByteArray} {maxL' : Nat} {rm : Room} {P' : Option Value → Heap → Prop} {argsL rest : List Value} (k : Wk l Z R y bytes maxL ret n0 Xt s h cells slots pc Ls st) (hy1 : y'.name = "<init>") (wl : (Jvm.Cond.methodLink y.cls i y').before a0 Z = true) (wm : (Jvm.Cond.instanceMethod y').before a0 Z = true) (wi : (Jvm.Cond.initialized y'.cls).before a0 Z = true) (wc : (Jvm.Cond.code y' bytes' maxL' none).before a0 Z = true)
    (hy : y'.cls ≠ "java/lang/invoke/MethodHandle" ∧ y'.cls ≠ "java/lang/invoke/VarHandle") (hC : Con l Z y' bytes' maxL' none rm (.ref a :: argsL).toArray h n0 P') (hlen : ∀ sig, parseMethodDescriptor y'.desc = some sig → argsL.length = sig.parameters.length)
    (hd : decode bytes pc = .ok (.invokespecial i, 3)) (hst : st = argsL.reverse ++ .ref a :: rest) (hL : Ls.size = maxL) (W0 : Nat) (hW : (rest.map fun v => v.category).sum ≤ W0) (hf : rm.frames + 1 ≤ R.frames) (hl : W0 + (maxL' + 11) + rm.locals ≤ R.locals) (hc : cells + rm.cells ≤ R.cells) (hs : slots + rm.slots ≤ R.slots) : ∃ v h', P' v h' ∧ Wk l Z R y bytes maxL ret n0 Xt s h' (cells + rm.cells) (slots + rm.slots) (pc + 3) Ls (v.toList ++ rest) := by
  obtain ⟨p, e, m, args, below, meth, c, S0, T, locs, F, X, eT, N, r, ex⟩ := k
  obtain ⟨v, vm₁, ⟨T', L', k', n'⟩, -, X', ⟨Lc, hQ, l1, y1, z1⟩, q⟩ := X.specialBack F.1 (y := y') hy1 F.2.2.2.2.1 (mvT F.2.2.2.1 wl) (mvT F.2.2.2.1 wm) (mvT F.2.2.2.1 wc) hy (backOf (W := W0) (Q := fun v h L => Fr n0 L ∧ P' v h) (hC []) F.2.2.2.1 wc wi hf hl) (g := mkF m pc Ls st) rfl (by rw [F.2.2.1]; exact hL) (Steps.refl _) (a := a) (argsL := argsL) (rest := rest) hlen hst (by show 2 * 0 + _ ≤ _; omega) (hb F.2.1 hd) (fun _ _ => ⟨rfl, eT, hc, hs⟩)
  dsimp only [Pt.U, Pt.locs, Pt.cells, Pt.slots] at X' l1 y1 z1 q hQ
  subst l1 y1 z1
  exact ⟨v, T'.heap, hQ.2, mk F X' rfl (Fr.app N hQ.1) (fun t u => r t (q.trans u)) ex⟩
theorem Wk.callV {i : Nat} {y' : MethodName} {bytes' : ByteArray} {maxL' : Nat} {ret' : Option FieldType} {rm : Room} {P' : Option Value → Heap → Prop} {argsL rest : List Value} {C : String} (k : Wk l Z R y bytes maxL ret n0 Xt s h cells slots pc Ls st) (wl : (Jvm.Cond.methodLink y.cls i y').before a0 Z = true) (wd : (Jvm.Cond.declares y').before a0 Z = true) (wm : (Jvm.Cond.instanceMethod y').before a0 Z = true) (wsl : (Jvm.Cond.selects C y' y').before a0 Z = true) (hCy : C = y'.cls) (wi : (Jvm.Cond.initialized y'.cls).before a0 Z = true) (wc : (Jvm.Cond.code y' bytes' maxL' ret').before a0 Z = true)
    (hy : y'.cls ≠ "java/lang/invoke/MethodHandle" ∧ y'.cls ≠ "java/lang/invoke/VarHandle") (E : Exa Z h a C) (hC : Con l Z y' bytes' maxL' ret' rm (.ref a :: argsL).toArray h n0 P') (hlen : ∀ sig, parseMethodDescriptor y'.desc = some sig → argsL.length = sig.parameters.length)
    (hd : decode bytes pc = .ok (.invokevirtual i, 3)) (hst : st = argsL.reverse ++ .ref a :: rest) (hL : Ls.size = maxL) (W0 : Nat) (hW : (rest.map fun v => v.category).sum ≤ W0) (hf : rm.frames + 1 ≤ R.frames) (hl : W0 + (maxL' + 11) + rm.locals ≤ R.locals) (hc : cells + rm.cells ≤ R.cells) (hs : slots + rm.slots ≤ R.slots) : ∃ v h', P' v h' ∧ Wk l Z R y bytes maxL ret n0 Xt s h' (cells + rm.cells) (slots + rm.slots) (pc + 3) Ls (v.toList ++ rest) := by
  obtain ⟨p, e, m, args, below, meth, c, S0, T, locs, F, X, eT, N, r, ex⟩ := k
  subst hCy
  obtain ⟨cq, kq, q1, q2, q3⟩ := isOf F.2.2.2.1 eT E
  obtain ⟨v, vm₁, ⟨T', L', k', n'⟩, -, X', ⟨Lc, hQ, l1, y1, z1⟩, q⟩ := X.virtualBack F.1 (y := y') (z := y') F.2.2.2.2.1 (mvT F.2.2.2.1 wl) (mvT F.2.2.2.1 wd) (notFace_of_selects (args := #[]) (mvT F.2.2.2.1 wsl)) (mvT F.2.2.2.1 wsl) (mvT F.2.2.2.1 wm) hy (backOf (W := W0) (Q := fun v h L => Fr n0 L ∧ P' v h) (hC []) F.2.2.2.1 wc wi hf hl) q1 q3 (g := mkF m pc Ls st) rfl (by rw [F.2.2.1]; exact hL) (Steps.refl _) (argsL := argsL) (rest := rest) hlen hst (by show 2 * 0 + _ ≤ _; omega) (hb F.2.1 hd) (fun _ _ => ⟨rfl, eT, hc, hs⟩)
  dsimp only [Pt.U, Pt.locs, Pt.cells, Pt.slots] at X' l1 y1 z1 q hQ
  subst l1 y1 z1
  exact ⟨v, T'.heap, hQ.2, mk F X' rfl (Fr.app N hQ.1) (fun t u => r t (q.trans u)) ex⟩
theorem Wk.callP {i : Nat} {y' : MethodName} {bytes' : ByteArray} {maxL' : Nat} {ret' : Option FieldType} {rm : Room} {P' : Option Value → Heap → Prop} {argsL rest : List Value} {z : MethodName} (k : Wk l Z R y bytes maxL ret n0 Xt s h cells slots pc Ls st) (wl : (Jvm.Cond.methodLink y.cls i y').before a0 Z = true) (wm : (Jvm.Cond.instanceMethod y').before a0 Z = true) (wp : (Jvm.Cond.privateMethod y').before a0 Z = true) (wz : (Jvm.Cond.selects y'.cls z z).before a0 Z = true) (hz : z.cls = y'.cls) (wi : (Jvm.Cond.initialized y'.cls).before a0 Z = true) (wc : (Jvm.Cond.code y' bytes' maxL' ret').before a0 Z = true)
    (hy : y'.cls ≠ "java/lang/invoke/MethodHandle" ∧ y'.cls ≠ "java/lang/invoke/VarHandle") (E : Exa Z h a y'.cls) (hC : Con l Z y' bytes' maxL' ret' rm (.ref a :: argsL).toArray h n0 P') (hlen : ∀ sig, parseMethodDescriptor y'.desc = some sig → argsL.length = sig.parameters.length)
    (hd : decode bytes pc = .ok (.invokevirtual i, 3)) (hst : st = argsL.reverse ++ .ref a :: rest) (hL : Ls.size = maxL) (W0 : Nat) (hW : (rest.map fun v => v.category).sum ≤ W0) (hf : rm.frames + 1 ≤ R.frames) (hl : W0 + (maxL' + 11) + rm.locals ≤ R.locals) (hc : cells + rm.cells ≤ R.cells) (hs : slots + rm.slots ≤ R.slots) : ∃ v h', P' v h' ∧ Wk l Z R y bytes maxL ret n0 Xt s h' (cells + rm.cells) (slots + rm.slots) (pc + 3) Ls (v.toList ++ rest) := by
  obtain ⟨p, e, m, args, below, meth, c, S0, T, locs, F, X, eT, N, r, ex⟩ := k
  obtain ⟨cq, q1, q2⟩ := E.cell
  have hsz : (Jvm.Cond.selects y'.cls z z).before args s = true := mvT F.2.2.2.1 wz
  have hpv : s.PrivateAt y' := Jvm.Cond.privateMethod_at (mvP F.2.2.2.1 wp (args := #[]))
  have hsel : (Jvm.Cond.selects y'.cls y' y').before args s = true := by
    obtain ⟨c2, r2, m2, u1, u2, u3, u4, kP, u5, u6⟩ := Jvm.Cond.selects_spec hsz
    have u7 : s.vm.findClass z.cls = some m2.cls := findClass_of_methodNamed u3
    rw [hz] at u7
    exact selects_self_of_private u7 u5 u6 hpv (mvT F.2.2.2.1 wm) hy
  obtain ⟨v, vm₁, ⟨T', L', k', n'⟩, -, X', ⟨Lc, hQ, l1, y1, z1⟩, q⟩ := X.privateBack F.1 (y := y') F.2.2.2.2.1 (mvT F.2.2.2.1 wl) (mvT F.2.2.2.1 wm) hsel hpv (mvT F.2.2.2.1 wc) hy (backOf (W := W0) (Q := fun v h L => Fr n0 L ∧ P' v h) (hC []) F.2.2.2.1 wc wi hf hl) (g := mkF m pc Ls st) rfl (by rw [F.2.2.1]; exact hL) (Steps.refl _) (a := a) (by rw [eT]; exact q1) q2 (argsL := argsL) (rest := rest) hlen hst (by show 2 * 0 + _ ≤ _; omega) (hb F.2.1 hd) (fun _ _ => ⟨rfl, eT, hc, hs⟩)
  dsimp only [Pt.U, Pt.locs, Pt.cells, Pt.slots] at X' l1 y1 z1 q hQ
  subst l1 y1 z1
  exact ⟨v, T'.heap, hQ.2, mk F X' rfl (Fr.app N hQ.1) (fun t u => r t (q.trans u)) ex⟩
theorem Wk.tswIn {x : Int32} {dflt low high : Int} {offs : Array Int} {len : Nat} {o : Int} {pc' : Nat} (k : Wk l Z R y bytes maxL ret n0 Xt s h cells slots pc Ls (.int x :: st)) (hd : decode bytes pc = .ok (.tableswitch dflt low high offs, len)) (hin : ¬ (x.toInt < low ∨ x.toInt > high)) (hoff : offs[(x.toInt - low).toNat]? = some o) (hp : 0 ≤ (pc : Int) + o ∧ ((pc : Int) + o).toNat = pc') : Wk l Z R y bytes maxL ret n0 Xt s h cells slots pc' Ls st := k.pure fun a hx hb' q => XS.tswIn a hx rfl (pc0 := pc) (pc' := pc') rfl (hb hb' hd) rfl hin hoff hp.1 hp.2 q
theorem Wk.tswOut {x : Int32} {dflt low high : Int} {offs : Array Int} {len : Nat} {pc' : Nat} (k : Wk l Z R y bytes maxL ret n0 Xt s h cells slots pc Ls (.int x :: st)) (hd : decode bytes pc = .ok (.tableswitch dflt low high offs, len)) (hout : x.toInt < low ∨ x.toInt > high) (hp : 0 ≤ (pc : Int) + dflt ∧ ((pc : Int) + dflt).toNat = pc') : Wk l Z R y bytes maxL ret n0 Xt s h cells slots pc' Ls st := k.pure fun a hx hb' q => XS.tswOut a hx rfl (pc0 := pc) (pc' := pc') rfl (hb hb' hd) rfl hout hp.1 hp.2 q
theorem Wk.out {t : FieldType} {w : Value} {i : Instr} (k : Wk l Z R y bytes maxL (some t) n0 (Ex s R n0 P G) s h cells slots pc Ls (w :: st)) (hn : narrow t w = w)
    (hi : (i = .ireturn ∧ (t = .int ∨ t = .boolean ∨ t = .byte ∨ t = .char ∨ t = .short) ∧ ∃ z, w = .int z) ∨ (i = .lreturn ∧ t = .long ∧ ∃ z, w = .long z) ∨ (i = .dreturn ∧ t = .double ∧ ∃ z, w = .double z) ∨ (i = .freturn ∧ t = .float ∧ ∃ z, w = .float z) ∨ (i = .areturn ∧ t.isReference = true ∧ w.isRef = true))
    (hd : decode bytes pc = .ok (i, 1)) (hc : cells ≤ R.cells) (hs : slots ≤ R.slots) (hP : P (some w) h) : G := by
  obtain ⟨p, e, m, args, below, meth, c, S0, T, locs, F, X, eT, N, r, ex⟩ := k
  have hlk : meth.locks = false := F.2.2.2.2.2.2.2
  obtain ⟨fs, hr, hrun, hended, hW, hsame⟩ := X.leave (v := some w) (fun z => by rw [F.2.2.2.2.2.2.1] at z; cases z)
  refine ex ⟨_, _, r _ (retOut X F.1 F.2.2.2.2.2.2.1 hn hi (hb F.2.1 hd) hr), hrun, hended, _, locs, rfl, ⟨N, ?_⟩, ⟨_, rfl⟩, hW, hsame.mono hc hs⟩
  show P (some w) T.heap
  rw [eT]; exact hP
theorem Wk.outN (k : Wk l Z R y bytes maxL none n0 (Ex s R n0 P G) s h cells slots pc Ls []) (hd : decode bytes pc = .ok (.return_, 1)) (hc : cells ≤ R.cells) (hs : slots ≤ R.slots) (hP : P none h) : G := by
  obtain ⟨p, e, m, args, below, meth, c, S0, T, locs, F, X, eT, N, r, ex⟩ := k
  have hlk : meth.locks = false := F.2.2.2.2.2.2.2
  obtain ⟨fs, hr, hrun, hended, hW, hsame⟩ := X.leave (v := none) (fun _ => rfl)
  refine ex ⟨_, _, r _ (X.returnOut F.1 F.2.2.2.2.2.2.1 (hb F.2.1 hd) hr), hrun, hended, _, locs, rfl, ⟨N, ?_⟩, ⟨_, rfl⟩, hW, hsame.mono hc hs⟩
  show P none T.heap
  rw [eT]; exact hP
theorem Wk.outI {z : Int32} (k : Wk l Z R y bytes maxL (some .int) n0 (Ex s R n0 P G) s h cells slots pc Ls (.int z :: st)) (hd : decode bytes pc = .ok (.ireturn, 1)) (hc : cells ≤ R.cells) (hs : slots ≤ R.slots) (hP : P (some (.int z)) h) : G := k.out rfl (Or.inl ⟨rfl, Or.inl rfl, z, rfl⟩) hd hc hs hP
theorem Wk.outZ {z : Int32} (k : Wk l Z R y bytes maxL (some .boolean) n0 (Ex s R n0 P G) s h cells slots pc Ls (.int z :: st)) (hz : z = 0 ∨ z = 1) (hd : decode bytes pc = .ok (.ireturn, 1)) (hc : cells ≤ R.cells) (hs : slots ≤ R.slots) (hP : P (some (.int z)) h) : G := k.out (by rcases hz with rfl | rfl <;> rfl) (Or.inl ⟨rfl, Or.inr (Or.inl rfl), z, rfl⟩) hd hc hs hP
theorem Wk.outC {z : Int32} (k : Wk l Z R y bytes maxL (some .char) n0 (Ex s R n0 P G) s h cells slots pc Ls (.int z :: st)) (hz : z.toUInt32.toUInt16.toUInt32.toInt32 = z) (hd : decode bytes pc = .ok (.ireturn, 1)) (hc : cells ≤ R.cells) (hs : slots ≤ R.slots) (hP : P (some (.int z)) h) : G := k.out (congrArg Value.int hz) (Or.inl ⟨rfl, Or.inr (Or.inr (Or.inr (Or.inl rfl))), z, rfl⟩) hd hc hs hP
theorem Wk.outB {z : Int32} (k : Wk l Z R y bytes maxL (some .byte) n0 (Ex s R n0 P G) s h cells slots pc Ls (.int z :: st)) (hz : z.toInt8.toInt32 = z) (hd : decode bytes pc = .ok (.ireturn, 1)) (hc : cells ≤ R.cells) (hs : slots ≤ R.slots) (hP : P (some (.int z)) h) : G := k.out (congrArg Value.int hz) (Or.inl ⟨rfl, Or.inr (Or.inr (Or.inl rfl)), z, rfl⟩) hd hc hs hP
theorem Wk.outJ {z : Int64} (k : Wk l Z R y bytes maxL (some .long) n0 (Ex s R n0 P G) s h cells slots pc Ls (.long z :: st)) (hd : decode bytes pc = .ok (.lreturn, 1)) (hc : cells ≤ R.cells) (hs : slots ≤ R.slots) (hP : P (some (.long z)) h) : G := k.out rfl (Or.inr (Or.inl ⟨rfl, rfl, z, rfl⟩)) hd hc hs hP
theorem Wk.outA {w : Value} {t : FieldType} (k : Wk l Z R y bytes maxL (some t) n0 (Ex s R n0 P G) s h cells slots pc Ls (w :: st)) (ht : t.isReference = true) (hw : w.isRef = true) (hd : decode bytes pc = .ok (.areturn, 1)) (hc : cells ≤ R.cells) (hs : slots ≤ R.slots) (hP : P (some w) h) : G := k.out (by cases t <;> first | rfl | cases ht) (Or.inr (Or.inr (Or.inr (Or.inr ⟨rfl, ht, hw⟩)))) hd hc hs hP
end L
end Jvm.Wk
namespace Jvm.Pilot.@@N@@
open Jvm Jvm.ClassFile Sem Op Lib Jvm.Free Jvm.Stand Jvm.LawKit Jvm.RoadKit Bundle Jvm.Wk Jvm.Pilot.@@N@@.Jvm.D
def chOk (n : Int) : Prop := (32 ≤ n ∧ n ≤ 55295) ∨ n = 9 ∨ n = 10 ∨ n = 13 ∨ (57344 ≤ n ∧ n ≤ 65533) ∨ (65536 ≤ n ∧ n ≤ 1114111)
theorem d1_0 : decode prog_58_method_2_code 0 = .ok (.iload_n 0, 1) := by decide +kernel
theorem d1_1 : decode prog_58_method_2_code 1 = .ok (.bipush 32, 2) := by decide +kernel
theorem d1_3 : decode prog_58_method_2_code 3 = .ok (.if_icmp .lt 9, 3) := by decide +kernel
theorem d1_6 : decode prog_58_method_2_code 6 = .ok (.iload_n 0, 1) := by decide +kernel
theorem d1_7 : decode prog_58_method_2_code 7 = .ok (.ldc 7, 2) := by decide +kernel
theorem d1_9 : decode prog_58_method_2_code 9 = .ok (.if_icmp .le 45, 3) := by decide +kernel
theorem d1_12 : decode prog_58_method_2_code 12 = .ok (.iload_n 0, 1) := by decide +kernel
theorem d1_13 : decode prog_58_method_2_code 13 = .ok (.bipush 9, 2) := by decide +kernel
theorem d1_15 : decode prog_58_method_2_code 15 = .ok (.if_icmp .eq 39, 3) := by decide +kernel
theorem d1_18 : decode prog_58_method_2_code 18 = .ok (.iload_n 0, 1) := by decide +kernel
theorem d1_19 : decode prog_58_method_2_code 19 = .ok (.bipush 10, 2) := by decide +kernel
theorem d1_21 : decode prog_58_method_2_code 21 = .ok (.if_icmp .eq 33, 3) := by decide +kernel
theorem d1_24 : decode prog_58_method_2_code 24 = .ok (.iload_n 0, 1) := by decide +kernel
theorem d1_25 : decode prog_58_method_2_code 25 = .ok (.bipush 13, 2) := by decide +kernel
theorem d1_27 : decode prog_58_method_2_code 27 = .ok (.if_icmp .eq 27, 3) := by decide +kernel
theorem d1_30 : decode prog_58_method_2_code 30 = .ok (.iload_n 0, 1) := by decide +kernel
theorem d1_31 : decode prog_58_method_2_code 31 = .ok (.ldc 8, 2) := by decide +kernel
theorem d1_33 : decode prog_58_method_2_code 33 = .ok (.if_icmp .lt 9, 3) := by decide +kernel
theorem d1_36 : decode prog_58_method_2_code 36 = .ok (.iload_n 0, 1) := by decide +kernel
theorem d1_37 : decode prog_58_method_2_code 37 = .ok (.ldc 9, 2) := by decide +kernel
theorem d1_39 : decode prog_58_method_2_code 39 = .ok (.if_icmp .le 15, 3) := by decide +kernel
theorem d1_42 : decode prog_58_method_2_code 42 = .ok (.iload_n 0, 1) := by decide +kernel
theorem d1_43 : decode prog_58_method_2_code 43 = .ok (.ldc 10, 2) := by decide +kernel
theorem d1_45 : decode prog_58_method_2_code 45 = .ok (.if_icmp .lt 13, 3) := by decide +kernel
theorem d1_48 : decode prog_58_method_2_code 48 = .ok (.iload_n 0, 1) := by decide +kernel
theorem d1_49 : decode prog_58_method_2_code 49 = .ok (.ldc 11, 2) := by decide +kernel
theorem d1_51 : decode prog_58_method_2_code 51 = .ok (.if_icmp .gt 7, 3) := by decide +kernel
theorem d1_54 : decode prog_58_method_2_code 54 = .ok (.iconst 1, 1) := by decide +kernel
theorem d1_55 : decode prog_58_method_2_code 55 = .ok (.goto 4, 3) := by decide +kernel
theorem d1_58 : decode prog_58_method_2_code 58 = .ok (.iconst 0, 1) := by decide +kernel
theorem d1_59 : decode prog_58_method_2_code 59 = .ok (.ireturn, 1) := by decide +kernel
theorem pn1 : plainFor (⟨"com/example/pcdata/pcdata/XmlChars", "isChar", "(I)Z"⟩ : MethodName) = true := plainFor_of_name (show plainName "com/example/pcdata/pcdata/XmlChars" = true by first | (simp [plainName, overriddenIn]; done) | decide +kernel)
theorem pd1 : parseMethodDescriptor "(I)Z" = some ⟨[.int], some .boolean⟩ := by decide +kernel
abbrev W1 (l : Launch) (Z : State) (n0 : Nat) (P : Option Value → Heap → Prop) (G : Prop) (s : State) := Wk l Z ({ frames := 0, cells := 0, slots := 0, locals := 0 } : Room) (⟨"com/example/pcdata/pcdata/XmlChars", "isChar", "(I)Z"⟩ : MethodName) prog_58_method_2_code 1 (some .boolean) n0 (Ex s ({ frames := 0, cells := 0, slots := 0, locals := 0 } : Room) n0 P G) s
abbrev Q1 (c : Int32) (h0 : Heap) : Option Value → Heap → Prop := fun v h => h0 = h ∧ ∃ r : Int32, v = some (.int r) ∧ (((chOk c.toInt) ∧ r.toInt = 1) ∨ (¬ (chOk c.toInt) ∧ r.toInt = 0))
set_option maxRecDepth 65536 in
set_option maxHeartbeats 40000000 in
theorem con1 (l : Launch) (Z : State) (a0 : Array Value) (hw : ∀ d ∈ tables_1, d.before a0 Z = true) (c : Int32) (h0 : Heap) (n0 : Nat) : Con l Z (⟨"com/example/pcdata/pcdata/XmlChars", "isChar", "(I)Z"⟩ : MethodName) prog_58_method_2_code 1 (some .boolean) ({ frames := 0, cells := 0, slots := 0, locals := 0 } : Room) #[.int c] h0 n0 (Q1 c h0) := by
  have e0 : (0 : Int32).toInt = 0 := rfl
  have e1 : (1 : Int32).toInt = 1 := rfl
  have e32 : (32 : Int32).toInt = 32 := rfl
  have e55295 : (55295 : Int32).toInt = 55295 := rfl
  have e9 : (9 : Int32).toInt = 9 := rfl
  have e10 : (10 : Int32).toInt = 10 := rfl
  have e13 : (13 : Int32).toInt = 13 := rfl
  have e57344 : (57344 : Int32).toInt = 57344 := rfl
  have e65533 : (65533 : Int32).toInt = 65533 := rfl
  have e65536 : (65536 : Int32).toInt = 65536 := rfl
  have e1114111 : (1114111 : Int32).toInt = 1114111 := rfl
  refine Con.of pn1 (Ls := #[.val (.int c)]) (fun m => by first | (simp [entryFrame, mkF, argsToLocals, Value.category]; done) | rfl) ?_
  intro G s k
  have k : W1 l Z n0 (Q1 c h0) G s h0 0 0 3 #[.val (.int c)] [(.int (32 : Int32)), (.int c)] := (k.iloadN d1_0 rfl).bipush (32) d1_1 rfl
  by_cases c1 : c < (32 : Int32)
  · have k : W1 l Z n0 (Q1 c h0) G s h0 0 0 12 #[.val (.int c)] [] := k.icT (pc' := 12) d1_3 (XT.ii_lt_t c1) (by decide)
    have k : W1 l Z n0 (Q1 c h0) G s h0 0 0 15 #[.val (.int c)] [(.int (9 : Int32)), (.int c)] := (k.iloadN d1_12 rfl).bipush (9) d1_13 rfl
    by_cases c2 : c = (9 : Int32)
    · have k : W1 l Z n0 (Q1 c h0) G s h0 0 0 54 #[.val (.int c)] [] := k.icT (pc' := 54) d1_15 (XT.ii_eq_t c2) (by decide)
      have k : W1 l Z n0 (Q1 c h0) G s h0 0 0 59 #[.val (.int c)] [(.int (1 : Int32))] := (k.iconst (1) d1_54 rfl).goto (pc' := 59) d1_55 (by decide)
      exact k.outZ (Or.inr rfl) d1_59 (by decide) (by decide) ⟨rfl, (1 : Int32), rfl, Or.inl ⟨(by have u_c1 : (c).toInt < ((32 : Int32)).toInt := Int32.lt_iff_toInt_lt.mp c1; have u_c2 : (c).toInt = ((9 : Int32)).toInt := congrArg Int32.toInt c2; unfold chOk; omega), rfl⟩⟩
    · have k : W1 l Z n0 (Q1 c h0) G s h0 0 0 18 #[.val (.int c)] [] := k.icF d1_15 (XT.ii_eq_f c2)
      have k : W1 l Z n0 (Q1 c h0) G s h0 0 0 21 #[.val (.int c)] [(.int (10 : Int32)), (.int c)] := (k.iloadN d1_18 rfl).bipush (10) d1_19 rfl
      by_cases c3 : c = (10 : Int32)
      · have k : W1 l Z n0 (Q1 c h0) G s h0 0 0 54 #[.val (.int c)] [] := k.icT (pc' := 54) d1_21 (XT.ii_eq_t c3) (by decide)
        have k : W1 l Z n0 (Q1 c h0) G s h0 0 0 59 #[.val (.int c)] [(.int (1 : Int32))] := (k.iconst (1) d1_54 rfl).goto (pc' := 59) d1_55 (by decide)
        exact k.outZ (Or.inr rfl) d1_59 (by decide) (by decide) ⟨rfl, (1 : Int32), rfl, Or.inl ⟨(by have u_c1 : (c).toInt < ((32 : Int32)).toInt := Int32.lt_iff_toInt_lt.mp c1; have u_c2 : ¬ (c).toInt = ((9 : Int32)).toInt := fun q => c2 (Int32.toInt_inj.mp q); have u_c3 : (c).toInt = ((10 : Int32)).toInt := congrArg Int32.toInt c3; unfold chOk; omega), rfl⟩⟩
      · have k : W1 l Z n0 (Q1 c h0) G s h0 0 0 24 #[.val (.int c)] [] := k.icF d1_21 (XT.ii_eq_f c3)
        have k : W1 l Z n0 (Q1 c h0) G s h0 0 0 27 #[.val (.int c)] [(.int (13 : Int32)), (.int c)] := (k.iloadN d1_24 rfl).bipush (13) d1_25 rfl
        by_cases c4 : c = (13 : Int32)
        · have k : W1 l Z n0 (Q1 c h0) G s h0 0 0 54 #[.val (.int c)] [] := k.icT (pc' := 54) d1_27 (XT.ii_eq_t c4) (by decide)
          have k : W1 l Z n0 (Q1 c h0) G s h0 0 0 59 #[.val (.int c)] [(.int (1 : Int32))] := (k.iconst (1) d1_54 rfl).goto (pc' := 59) d1_55 (by decide)
          exact k.outZ (Or.inr rfl) d1_59 (by decide) (by decide) ⟨rfl, (1 : Int32), rfl, Or.inl ⟨(by have u_c1 : (c).toInt < ((32 : Int32)).toInt := Int32.lt_iff_toInt_lt.mp c1; have u_c2 : ¬ (c).toInt = ((9 : Int32)).toInt := fun q => c2 (Int32.toInt_inj.mp q); have u_c3 : ¬ (c).toInt = ((10 : Int32)).toInt := fun q => c3 (Int32.toInt_inj.mp q); have u_c4 : (c).toInt = ((13 : Int32)).toInt := congrArg Int32.toInt c4; unfold chOk; omega), rfl⟩⟩
        · have k : W1 l Z n0 (Q1 c h0) G s h0 0 0 30 #[.val (.int c)] [] := k.icF d1_27 (XT.ii_eq_f c4)
          have k : W1 l Z n0 (Q1 c h0) G s h0 0 0 33 #[.val (.int c)] [(.int (57344 : Int32)), (.int c)] := (k.iloadN d1_30 rfl).ldc (hw _ (List.mem_of_getElem? (i := 17) rfl)) d1_31
          by_cases c5 : c < (57344 : Int32)
          · have k : W1 l Z n0 (Q1 c h0) G s h0 0 0 42 #[.val (.int c)] [] := k.icT (pc' := 42) d1_33 (XT.ii_lt_t c5) (by decide)
            have k : W1 l Z n0 (Q1 c h0) G s h0 0 0 45 #[.val (.int c)] [(.int (65536 : Int32)), (.int c)] := (k.iloadN d1_42 rfl).ldc (hw _ (List.mem_of_getElem? (i := 18) rfl)) d1_43
            by_cases c6 : c < (65536 : Int32)
            · have k : W1 l Z n0 (Q1 c h0) G s h0 0 0 58 #[.val (.int c)] [] := k.icT (pc' := 58) d1_45 (XT.ii_lt_t c6) (by decide)
              have k : W1 l Z n0 (Q1 c h0) G s h0 0 0 59 #[.val (.int c)] [(.int (0 : Int32))] := k.iconst (0) d1_58 rfl
              exact k.outZ (Or.inl rfl) d1_59 (by decide) (by decide) ⟨rfl, (0 : Int32), rfl, Or.inr ⟨(by have u_c1 : (c).toInt < ((32 : Int32)).toInt := Int32.lt_iff_toInt_lt.mp c1; have u_c2 : ¬ (c).toInt = ((9 : Int32)).toInt := fun q => c2 (Int32.toInt_inj.mp q); have u_c3 : ¬ (c).toInt = ((10 : Int32)).toInt := fun q => c3 (Int32.toInt_inj.mp q); have u_c4 : ¬ (c).toInt = ((13 : Int32)).toInt := fun q => c4 (Int32.toInt_inj.mp q); have u_c5 : (c).toInt < ((57344 : Int32)).toInt := Int32.lt_iff_toInt_lt.mp c5; have u_c6 : (c).toInt < ((65536 : Int32)).toInt := Int32.lt_iff_toInt_lt.mp c6; unfold chOk; omega), rfl⟩⟩
            · have k : W1 l Z n0 (Q1 c h0) G s h0 0 0 48 #[.val (.int c)] [] := k.icF d1_45 (XT.ii_lt_f c6)
              have k : W1 l Z n0 (Q1 c h0) G s h0 0 0 51 #[.val (.int c)] [(.int (1114111 : Int32)), (.int c)] := (k.iloadN d1_48 rfl).ldc (hw _ (List.mem_of_getElem? (i := 25) rfl)) d1_49
              by_cases c7 : (1114111 : Int32) < c
              · have k : W1 l Z n0 (Q1 c h0) G s h0 0 0 58 #[.val (.int c)] [] := k.icT (pc' := 58) d1_51 (XT.ii_gt_t c7) (by decide)
                have k : W1 l Z n0 (Q1 c h0) G s h0 0 0 59 #[.val (.int c)] [(.int (0 : Int32))] := k.iconst (0) d1_58 rfl
                exact k.outZ (Or.inl rfl) d1_59 (by decide) (by decide) ⟨rfl, (0 : Int32), rfl, Or.inr ⟨(by have u_c1 : (c).toInt < ((32 : Int32)).toInt := Int32.lt_iff_toInt_lt.mp c1; have u_c2 : ¬ (c).toInt = ((9 : Int32)).toInt := fun q => c2 (Int32.toInt_inj.mp q); have u_c3 : ¬ (c).toInt = ((10 : Int32)).toInt := fun q => c3 (Int32.toInt_inj.mp q); have u_c4 : ¬ (c).toInt = ((13 : Int32)).toInt := fun q => c4 (Int32.toInt_inj.mp q); have u_c5 : (c).toInt < ((57344 : Int32)).toInt := Int32.lt_iff_toInt_lt.mp c5; have u_c6 : ¬ (c).toInt < ((65536 : Int32)).toInt := fun q => c6 (Int32.lt_iff_toInt_lt.mpr q); have u_c7 : ((1114111 : Int32)).toInt < (c).toInt := Int32.lt_iff_toInt_lt.mp c7; unfold chOk; omega), rfl⟩⟩
              · have k : W1 l Z n0 (Q1 c h0) G s h0 0 0 54 #[.val (.int c)] [] := k.icF d1_51 (XT.ii_gt_f c7)
                have k : W1 l Z n0 (Q1 c h0) G s h0 0 0 59 #[.val (.int c)] [(.int (1 : Int32))] := (k.iconst (1) d1_54 rfl).goto (pc' := 59) d1_55 (by decide)
                exact k.outZ (Or.inr rfl) d1_59 (by decide) (by decide) ⟨rfl, (1 : Int32), rfl, Or.inl ⟨(by have u_c1 : (c).toInt < ((32 : Int32)).toInt := Int32.lt_iff_toInt_lt.mp c1; have u_c2 : ¬ (c).toInt = ((9 : Int32)).toInt := fun q => c2 (Int32.toInt_inj.mp q); have u_c3 : ¬ (c).toInt = ((10 : Int32)).toInt := fun q => c3 (Int32.toInt_inj.mp q); have u_c4 : ¬ (c).toInt = ((13 : Int32)).toInt := fun q => c4 (Int32.toInt_inj.mp q); have u_c5 : (c).toInt < ((57344 : Int32)).toInt := Int32.lt_iff_toInt_lt.mp c5; have u_c6 : ¬ (c).toInt < ((65536 : Int32)).toInt := fun q => c6 (Int32.lt_iff_toInt_lt.mpr q); have u_c7 : ¬ ((1114111 : Int32)).toInt < (c).toInt := fun q => c7 (Int32.lt_iff_toInt_lt.mpr q); unfold chOk; omega), rfl⟩⟩
          · have k : W1 l Z n0 (Q1 c h0) G s h0 0 0 36 #[.val (.int c)] [] := k.icF d1_33 (XT.ii_lt_f c5)
            have k : W1 l Z n0 (Q1 c h0) G s h0 0 0 39 #[.val (.int c)] [(.int (65533 : Int32)), (.int c)] := (k.iloadN d1_36 rfl).ldc (hw _ (List.mem_of_getElem? (i := 24) rfl)) d1_37
            by_cases c8 : (65533 : Int32) < c
            · have k : W1 l Z n0 (Q1 c h0) G s h0 0 0 42 #[.val (.int c)] [] := k.icF d1_39 (XT.ii_le_f c8)
              have k : W1 l Z n0 (Q1 c h0) G s h0 0 0 45 #[.val (.int c)] [(.int (65536 : Int32)), (.int c)] := (k.iloadN d1_42 rfl).ldc (hw _ (List.mem_of_getElem? (i := 18) rfl)) d1_43
              by_cases c9 : c < (65536 : Int32)
              · have k : W1 l Z n0 (Q1 c h0) G s h0 0 0 58 #[.val (.int c)] [] := k.icT (pc' := 58) d1_45 (XT.ii_lt_t c9) (by decide)
                have k : W1 l Z n0 (Q1 c h0) G s h0 0 0 59 #[.val (.int c)] [(.int (0 : Int32))] := k.iconst (0) d1_58 rfl
                exact k.outZ (Or.inl rfl) d1_59 (by decide) (by decide) ⟨rfl, (0 : Int32), rfl, Or.inr ⟨(by have u_c1 : (c).toInt < ((32 : Int32)).toInt := Int32.lt_iff_toInt_lt.mp c1; have u_c2 : ¬ (c).toInt = ((9 : Int32)).toInt := fun q => c2 (Int32.toInt_inj.mp q); have u_c3 : ¬ (c).toInt = ((10 : Int32)).toInt := fun q => c3 (Int32.toInt_inj.mp q); have u_c4 : ¬ (c).toInt = ((13 : Int32)).toInt := fun q => c4 (Int32.toInt_inj.mp q); have u_c5 : ¬ (c).toInt < ((57344 : Int32)).toInt := fun q => c5 (Int32.lt_iff_toInt_lt.mpr q); have u_c8 : ((65533 : Int32)).toInt < (c).toInt := Int32.lt_iff_toInt_lt.mp c8; have u_c9 : (c).toInt < ((65536 : Int32)).toInt := Int32.lt_iff_toInt_lt.mp c9; unfold chOk; omega), rfl⟩⟩
              · have k : W1 l Z n0 (Q1 c h0) G s h0 0 0 48 #[.val (.int c)] [] := k.icF d1_45 (XT.ii_lt_f c9)
                have k : W1 l Z n0 (Q1 c h0) G s h0 0 0 51 #[.val (.int c)] [(.int (1114111 : Int32)), (.int c)] := (k.iloadN d1_48 rfl).ldc (hw _ (List.mem_of_getElem? (i := 25) rfl)) d1_49
                by_cases c10 : (1114111 : Int32) < c
                · have k : W1 l Z n0 (Q1 c h0) G s h0 0 0 58 #[.val (.int c)] [] := k.icT (pc' := 58) d1_51 (XT.ii_gt_t c10) (by decide)
                  have k : W1 l Z n0 (Q1 c h0) G s h0 0 0 59 #[.val (.int c)] [(.int (0 : Int32))] := k.iconst (0) d1_58 rfl
                  exact k.outZ (Or.inl rfl) d1_59 (by decide) (by decide) ⟨rfl, (0 : Int32), rfl, Or.inr ⟨(by have u_c1 : (c).toInt < ((32 : Int32)).toInt := Int32.lt_iff_toInt_lt.mp c1; have u_c2 : ¬ (c).toInt = ((9 : Int32)).toInt := fun q => c2 (Int32.toInt_inj.mp q); have u_c3 : ¬ (c).toInt = ((10 : Int32)).toInt := fun q => c3 (Int32.toInt_inj.mp q); have u_c4 : ¬ (c).toInt = ((13 : Int32)).toInt := fun q => c4 (Int32.toInt_inj.mp q); have u_c5 : ¬ (c).toInt < ((57344 : Int32)).toInt := fun q => c5 (Int32.lt_iff_toInt_lt.mpr q); have u_c8 : ((65533 : Int32)).toInt < (c).toInt := Int32.lt_iff_toInt_lt.mp c8; have u_c9 : ¬ (c).toInt < ((65536 : Int32)).toInt := fun q => c9 (Int32.lt_iff_toInt_lt.mpr q); have u_c10 : ((1114111 : Int32)).toInt < (c).toInt := Int32.lt_iff_toInt_lt.mp c10; unfold chOk; omega), rfl⟩⟩
                · have k : W1 l Z n0 (Q1 c h0) G s h0 0 0 54 #[.val (.int c)] [] := k.icF d1_51 (XT.ii_gt_f c10)
                  have k : W1 l Z n0 (Q1 c h0) G s h0 0 0 59 #[.val (.int c)] [(.int (1 : Int32))] := (k.iconst (1) d1_54 rfl).goto (pc' := 59) d1_55 (by decide)
                  exact k.outZ (Or.inr rfl) d1_59 (by decide) (by decide) ⟨rfl, (1 : Int32), rfl, Or.inl ⟨(by have u_c1 : (c).toInt < ((32 : Int32)).toInt := Int32.lt_iff_toInt_lt.mp c1; have u_c2 : ¬ (c).toInt = ((9 : Int32)).toInt := fun q => c2 (Int32.toInt_inj.mp q); have u_c3 : ¬ (c).toInt = ((10 : Int32)).toInt := fun q => c3 (Int32.toInt_inj.mp q); have u_c4 : ¬ (c).toInt = ((13 : Int32)).toInt := fun q => c4 (Int32.toInt_inj.mp q); have u_c5 : ¬ (c).toInt < ((57344 : Int32)).toInt := fun q => c5 (Int32.lt_iff_toInt_lt.mpr q); have u_c8 : ((65533 : Int32)).toInt < (c).toInt := Int32.lt_iff_toInt_lt.mp c8; have u_c9 : ¬ (c).toInt < ((65536 : Int32)).toInt := fun q => c9 (Int32.lt_iff_toInt_lt.mpr q); have u_c10 : ¬ ((1114111 : Int32)).toInt < (c).toInt := fun q => c10 (Int32.lt_iff_toInt_lt.mpr q); unfold chOk; omega), rfl⟩⟩
            · have k : W1 l Z n0 (Q1 c h0) G s h0 0 0 54 #[.val (.int c)] [] := k.icT (pc' := 54) d1_39 (XT.ii_le_t c8) (by decide)
              have k : W1 l Z n0 (Q1 c h0) G s h0 0 0 59 #[.val (.int c)] [(.int (1 : Int32))] := (k.iconst (1) d1_54 rfl).goto (pc' := 59) d1_55 (by decide)
              exact k.outZ (Or.inr rfl) d1_59 (by decide) (by decide) ⟨rfl, (1 : Int32), rfl, Or.inl ⟨(by have u_c1 : (c).toInt < ((32 : Int32)).toInt := Int32.lt_iff_toInt_lt.mp c1; have u_c2 : ¬ (c).toInt = ((9 : Int32)).toInt := fun q => c2 (Int32.toInt_inj.mp q); have u_c3 : ¬ (c).toInt = ((10 : Int32)).toInt := fun q => c3 (Int32.toInt_inj.mp q); have u_c4 : ¬ (c).toInt = ((13 : Int32)).toInt := fun q => c4 (Int32.toInt_inj.mp q); have u_c5 : ¬ (c).toInt < ((57344 : Int32)).toInt := fun q => c5 (Int32.lt_iff_toInt_lt.mpr q); have u_c8 : ¬ ((65533 : Int32)).toInt < (c).toInt := fun q => c8 (Int32.lt_iff_toInt_lt.mpr q); unfold chOk; omega), rfl⟩⟩
  · have k : W1 l Z n0 (Q1 c h0) G s h0 0 0 6 #[.val (.int c)] [] := k.icF d1_3 (XT.ii_lt_f c1)
    have k : W1 l Z n0 (Q1 c h0) G s h0 0 0 9 #[.val (.int c)] [(.int (55295 : Int32)), (.int c)] := (k.iloadN d1_6 rfl).ldc (hw _ (List.mem_of_getElem? (i := 23) rfl)) d1_7
    by_cases c11 : (55295 : Int32) < c
    · have k : W1 l Z n0 (Q1 c h0) G s h0 0 0 12 #[.val (.int c)] [] := k.icF d1_9 (XT.ii_le_f c11)
      have k : W1 l Z n0 (Q1 c h0) G s h0 0 0 15 #[.val (.int c)] [(.int (9 : Int32)), (.int c)] := (k.iloadN d1_12 rfl).bipush (9) d1_13 rfl
      by_cases c12 : c = (9 : Int32)
      · have k : W1 l Z n0 (Q1 c h0) G s h0 0 0 54 #[.val (.int c)] [] := k.icT (pc' := 54) d1_15 (XT.ii_eq_t c12) (by decide)
        have k : W1 l Z n0 (Q1 c h0) G s h0 0 0 59 #[.val (.int c)] [(.int (1 : Int32))] := (k.iconst (1) d1_54 rfl).goto (pc' := 59) d1_55 (by decide)
        exact k.outZ (Or.inr rfl) d1_59 (by decide) (by decide) ⟨rfl, (1 : Int32), rfl, Or.inl ⟨(by have u_c1 : ¬ (c).toInt < ((32 : Int32)).toInt := fun q => c1 (Int32.lt_iff_toInt_lt.mpr q); have u_c11 : ((55295 : Int32)).toInt < (c).toInt := Int32.lt_iff_toInt_lt.mp c11; have u_c12 : (c).toInt = ((9 : Int32)).toInt := congrArg Int32.toInt c12; unfold chOk; omega), rfl⟩⟩
      · have k : W1 l Z n0 (Q1 c h0) G s h0 0 0 18 #[.val (.int c)] [] := k.icF d1_15 (XT.ii_eq_f c12)
        have k : W1 l Z n0 (Q1 c h0) G s h0 0 0 21 #[.val (.int c)] [(.int (10 : Int32)), (.int c)] := (k.iloadN d1_18 rfl).bipush (10) d1_19 rfl
        by_cases c13 : c = (10 : Int32)
        · have k : W1 l Z n0 (Q1 c h0) G s h0 0 0 54 #[.val (.int c)] [] := k.icT (pc' := 54) d1_21 (XT.ii_eq_t c13) (by decide)
          have k : W1 l Z n0 (Q1 c h0) G s h0 0 0 59 #[.val (.int c)] [(.int (1 : Int32))] := (k.iconst (1) d1_54 rfl).goto (pc' := 59) d1_55 (by decide)
          exact k.outZ (Or.inr rfl) d1_59 (by decide) (by decide) ⟨rfl, (1 : Int32), rfl, Or.inl ⟨(by have u_c1 : ¬ (c).toInt < ((32 : Int32)).toInt := fun q => c1 (Int32.lt_iff_toInt_lt.mpr q); have u_c11 : ((55295 : Int32)).toInt < (c).toInt := Int32.lt_iff_toInt_lt.mp c11; have u_c12 : ¬ (c).toInt = ((9 : Int32)).toInt := fun q => c12 (Int32.toInt_inj.mp q); have u_c13 : (c).toInt = ((10 : Int32)).toInt := congrArg Int32.toInt c13; unfold chOk; omega), rfl⟩⟩
        · have k : W1 l Z n0 (Q1 c h0) G s h0 0 0 24 #[.val (.int c)] [] := k.icF d1_21 (XT.ii_eq_f c13)
          have k : W1 l Z n0 (Q1 c h0) G s h0 0 0 27 #[.val (.int c)] [(.int (13 : Int32)), (.int c)] := (k.iloadN d1_24 rfl).bipush (13) d1_25 rfl
          by_cases c14 : c = (13 : Int32)
          · have k : W1 l Z n0 (Q1 c h0) G s h0 0 0 54 #[.val (.int c)] [] := k.icT (pc' := 54) d1_27 (XT.ii_eq_t c14) (by decide)
            have k : W1 l Z n0 (Q1 c h0) G s h0 0 0 59 #[.val (.int c)] [(.int (1 : Int32))] := (k.iconst (1) d1_54 rfl).goto (pc' := 59) d1_55 (by decide)
            exact k.outZ (Or.inr rfl) d1_59 (by decide) (by decide) ⟨rfl, (1 : Int32), rfl, Or.inl ⟨(by have u_c1 : ¬ (c).toInt < ((32 : Int32)).toInt := fun q => c1 (Int32.lt_iff_toInt_lt.mpr q); have u_c11 : ((55295 : Int32)).toInt < (c).toInt := Int32.lt_iff_toInt_lt.mp c11; have u_c12 : ¬ (c).toInt = ((9 : Int32)).toInt := fun q => c12 (Int32.toInt_inj.mp q); have u_c13 : ¬ (c).toInt = ((10 : Int32)).toInt := fun q => c13 (Int32.toInt_inj.mp q); have u_c14 : (c).toInt = ((13 : Int32)).toInt := congrArg Int32.toInt c14; unfold chOk; omega), rfl⟩⟩
          · have k : W1 l Z n0 (Q1 c h0) G s h0 0 0 30 #[.val (.int c)] [] := k.icF d1_27 (XT.ii_eq_f c14)
            have k : W1 l Z n0 (Q1 c h0) G s h0 0 0 33 #[.val (.int c)] [(.int (57344 : Int32)), (.int c)] := (k.iloadN d1_30 rfl).ldc (hw _ (List.mem_of_getElem? (i := 17) rfl)) d1_31
            by_cases c15 : c < (57344 : Int32)
            · have k : W1 l Z n0 (Q1 c h0) G s h0 0 0 42 #[.val (.int c)] [] := k.icT (pc' := 42) d1_33 (XT.ii_lt_t c15) (by decide)
              have k : W1 l Z n0 (Q1 c h0) G s h0 0 0 45 #[.val (.int c)] [(.int (65536 : Int32)), (.int c)] := (k.iloadN d1_42 rfl).ldc (hw _ (List.mem_of_getElem? (i := 18) rfl)) d1_43
              by_cases c16 : c < (65536 : Int32)
              · have k : W1 l Z n0 (Q1 c h0) G s h0 0 0 58 #[.val (.int c)] [] := k.icT (pc' := 58) d1_45 (XT.ii_lt_t c16) (by decide)
                have k : W1 l Z n0 (Q1 c h0) G s h0 0 0 59 #[.val (.int c)] [(.int (0 : Int32))] := k.iconst (0) d1_58 rfl
                exact k.outZ (Or.inl rfl) d1_59 (by decide) (by decide) ⟨rfl, (0 : Int32), rfl, Or.inr ⟨(by have u_c1 : ¬ (c).toInt < ((32 : Int32)).toInt := fun q => c1 (Int32.lt_iff_toInt_lt.mpr q); have u_c11 : ((55295 : Int32)).toInt < (c).toInt := Int32.lt_iff_toInt_lt.mp c11; have u_c12 : ¬ (c).toInt = ((9 : Int32)).toInt := fun q => c12 (Int32.toInt_inj.mp q); have u_c13 : ¬ (c).toInt = ((10 : Int32)).toInt := fun q => c13 (Int32.toInt_inj.mp q); have u_c14 : ¬ (c).toInt = ((13 : Int32)).toInt := fun q => c14 (Int32.toInt_inj.mp q); have u_c15 : (c).toInt < ((57344 : Int32)).toInt := Int32.lt_iff_toInt_lt.mp c15; have u_c16 : (c).toInt < ((65536 : Int32)).toInt := Int32.lt_iff_toInt_lt.mp c16; unfold chOk; omega), rfl⟩⟩
              · have k : W1 l Z n0 (Q1 c h0) G s h0 0 0 48 #[.val (.int c)] [] := k.icF d1_45 (XT.ii_lt_f c16)
                have k : W1 l Z n0 (Q1 c h0) G s h0 0 0 51 #[.val (.int c)] [(.int (1114111 : Int32)), (.int c)] := (k.iloadN d1_48 rfl).ldc (hw _ (List.mem_of_getElem? (i := 25) rfl)) d1_49
                by_cases c17 : (1114111 : Int32) < c
                · have k : W1 l Z n0 (Q1 c h0) G s h0 0 0 58 #[.val (.int c)] [] := k.icT (pc' := 58) d1_51 (XT.ii_gt_t c17) (by decide)
                  have k : W1 l Z n0 (Q1 c h0) G s h0 0 0 59 #[.val (.int c)] [(.int (0 : Int32))] := k.iconst (0) d1_58 rfl
                  exact k.outZ (Or.inl rfl) d1_59 (by decide) (by decide) ⟨rfl, (0 : Int32), rfl, Or.inr ⟨(by have u_c1 : ¬ (c).toInt < ((32 : Int32)).toInt := fun q => c1 (Int32.lt_iff_toInt_lt.mpr q); have u_c11 : ((55295 : Int32)).toInt < (c).toInt := Int32.lt_iff_toInt_lt.mp c11; have u_c12 : ¬ (c).toInt = ((9 : Int32)).toInt := fun q => c12 (Int32.toInt_inj.mp q); have u_c13 : ¬ (c).toInt = ((10 : Int32)).toInt := fun q => c13 (Int32.toInt_inj.mp q); have u_c14 : ¬ (c).toInt = ((13 : Int32)).toInt := fun q => c14 (Int32.toInt_inj.mp q); have u_c15 : (c).toInt < ((57344 : Int32)).toInt := Int32.lt_iff_toInt_lt.mp c15; have u_c16 : ¬ (c).toInt < ((65536 : Int32)).toInt := fun q => c16 (Int32.lt_iff_toInt_lt.mpr q); have u_c17 : ((1114111 : Int32)).toInt < (c).toInt := Int32.lt_iff_toInt_lt.mp c17; unfold chOk; omega), rfl⟩⟩
                · have k : W1 l Z n0 (Q1 c h0) G s h0 0 0 54 #[.val (.int c)] [] := k.icF d1_51 (XT.ii_gt_f c17)
                  have k : W1 l Z n0 (Q1 c h0) G s h0 0 0 59 #[.val (.int c)] [(.int (1 : Int32))] := (k.iconst (1) d1_54 rfl).goto (pc' := 59) d1_55 (by decide)
                  exact k.outZ (Or.inr rfl) d1_59 (by decide) (by decide) ⟨rfl, (1 : Int32), rfl, Or.inl ⟨(by have u_c1 : ¬ (c).toInt < ((32 : Int32)).toInt := fun q => c1 (Int32.lt_iff_toInt_lt.mpr q); have u_c11 : ((55295 : Int32)).toInt < (c).toInt := Int32.lt_iff_toInt_lt.mp c11; have u_c12 : ¬ (c).toInt = ((9 : Int32)).toInt := fun q => c12 (Int32.toInt_inj.mp q); have u_c13 : ¬ (c).toInt = ((10 : Int32)).toInt := fun q => c13 (Int32.toInt_inj.mp q); have u_c14 : ¬ (c).toInt = ((13 : Int32)).toInt := fun q => c14 (Int32.toInt_inj.mp q); have u_c15 : (c).toInt < ((57344 : Int32)).toInt := Int32.lt_iff_toInt_lt.mp c15; have u_c16 : ¬ (c).toInt < ((65536 : Int32)).toInt := fun q => c16 (Int32.lt_iff_toInt_lt.mpr q); have u_c17 : ¬ ((1114111 : Int32)).toInt < (c).toInt := fun q => c17 (Int32.lt_iff_toInt_lt.mpr q); unfold chOk; omega), rfl⟩⟩
            · have k : W1 l Z n0 (Q1 c h0) G s h0 0 0 36 #[.val (.int c)] [] := k.icF d1_33 (XT.ii_lt_f c15)
              have k : W1 l Z n0 (Q1 c h0) G s h0 0 0 39 #[.val (.int c)] [(.int (65533 : Int32)), (.int c)] := (k.iloadN d1_36 rfl).ldc (hw _ (List.mem_of_getElem? (i := 24) rfl)) d1_37
              by_cases c18 : (65533 : Int32) < c
              · have k : W1 l Z n0 (Q1 c h0) G s h0 0 0 42 #[.val (.int c)] [] := k.icF d1_39 (XT.ii_le_f c18)
                have k : W1 l Z n0 (Q1 c h0) G s h0 0 0 45 #[.val (.int c)] [(.int (65536 : Int32)), (.int c)] := (k.iloadN d1_42 rfl).ldc (hw _ (List.mem_of_getElem? (i := 18) rfl)) d1_43
                by_cases c19 : c < (65536 : Int32)
                · have k : W1 l Z n0 (Q1 c h0) G s h0 0 0 58 #[.val (.int c)] [] := k.icT (pc' := 58) d1_45 (XT.ii_lt_t c19) (by decide)
                  have k : W1 l Z n0 (Q1 c h0) G s h0 0 0 59 #[.val (.int c)] [(.int (0 : Int32))] := k.iconst (0) d1_58 rfl
                  exact k.outZ (Or.inl rfl) d1_59 (by decide) (by decide) ⟨rfl, (0 : Int32), rfl, Or.inr ⟨(by have u_c1 : ¬ (c).toInt < ((32 : Int32)).toInt := fun q => c1 (Int32.lt_iff_toInt_lt.mpr q); have u_c11 : ((55295 : Int32)).toInt < (c).toInt := Int32.lt_iff_toInt_lt.mp c11; have u_c12 : ¬ (c).toInt = ((9 : Int32)).toInt := fun q => c12 (Int32.toInt_inj.mp q); have u_c13 : ¬ (c).toInt = ((10 : Int32)).toInt := fun q => c13 (Int32.toInt_inj.mp q); have u_c14 : ¬ (c).toInt = ((13 : Int32)).toInt := fun q => c14 (Int32.toInt_inj.mp q); have u_c15 : ¬ (c).toInt < ((57344 : Int32)).toInt := fun q => c15 (Int32.lt_iff_toInt_lt.mpr q); have u_c18 : ((65533 : Int32)).toInt < (c).toInt := Int32.lt_iff_toInt_lt.mp c18; have u_c19 : (c).toInt < ((65536 : Int32)).toInt := Int32.lt_iff_toInt_lt.mp c19; unfold chOk; omega), rfl⟩⟩
                · have k : W1 l Z n0 (Q1 c h0) G s h0 0 0 48 #[.val (.int c)] [] := k.icF d1_45 (XT.ii_lt_f c19)
                  have k : W1 l Z n0 (Q1 c h0) G s h0 0 0 51 #[.val (.int c)] [(.int (1114111 : Int32)), (.int c)] := (k.iloadN d1_48 rfl).ldc (hw _ (List.mem_of_getElem? (i := 25) rfl)) d1_49
                  by_cases c20 : (1114111 : Int32) < c
                  · have k : W1 l Z n0 (Q1 c h0) G s h0 0 0 58 #[.val (.int c)] [] := k.icT (pc' := 58) d1_51 (XT.ii_gt_t c20) (by decide)
                    have k : W1 l Z n0 (Q1 c h0) G s h0 0 0 59 #[.val (.int c)] [(.int (0 : Int32))] := k.iconst (0) d1_58 rfl
                    exact k.outZ (Or.inl rfl) d1_59 (by decide) (by decide) ⟨rfl, (0 : Int32), rfl, Or.inr ⟨(by have u_c1 : ¬ (c).toInt < ((32 : Int32)).toInt := fun q => c1 (Int32.lt_iff_toInt_lt.mpr q); have u_c11 : ((55295 : Int32)).toInt < (c).toInt := Int32.lt_iff_toInt_lt.mp c11; have u_c12 : ¬ (c).toInt = ((9 : Int32)).toInt := fun q => c12 (Int32.toInt_inj.mp q); have u_c13 : ¬ (c).toInt = ((10 : Int32)).toInt := fun q => c13 (Int32.toInt_inj.mp q); have u_c14 : ¬ (c).toInt = ((13 : Int32)).toInt := fun q => c14 (Int32.toInt_inj.mp q); have u_c15 : ¬ (c).toInt < ((57344 : Int32)).toInt := fun q => c15 (Int32.lt_iff_toInt_lt.mpr q); have u_c18 : ((65533 : Int32)).toInt < (c).toInt := Int32.lt_iff_toInt_lt.mp c18; have u_c19 : ¬ (c).toInt < ((65536 : Int32)).toInt := fun q => c19 (Int32.lt_iff_toInt_lt.mpr q); have u_c20 : ((1114111 : Int32)).toInt < (c).toInt := Int32.lt_iff_toInt_lt.mp c20; unfold chOk; omega), rfl⟩⟩
                  · have k : W1 l Z n0 (Q1 c h0) G s h0 0 0 54 #[.val (.int c)] [] := k.icF d1_51 (XT.ii_gt_f c20)
                    have k : W1 l Z n0 (Q1 c h0) G s h0 0 0 59 #[.val (.int c)] [(.int (1 : Int32))] := (k.iconst (1) d1_54 rfl).goto (pc' := 59) d1_55 (by decide)
                    exact k.outZ (Or.inr rfl) d1_59 (by decide) (by decide) ⟨rfl, (1 : Int32), rfl, Or.inl ⟨(by have u_c1 : ¬ (c).toInt < ((32 : Int32)).toInt := fun q => c1 (Int32.lt_iff_toInt_lt.mpr q); have u_c11 : ((55295 : Int32)).toInt < (c).toInt := Int32.lt_iff_toInt_lt.mp c11; have u_c12 : ¬ (c).toInt = ((9 : Int32)).toInt := fun q => c12 (Int32.toInt_inj.mp q); have u_c13 : ¬ (c).toInt = ((10 : Int32)).toInt := fun q => c13 (Int32.toInt_inj.mp q); have u_c14 : ¬ (c).toInt = ((13 : Int32)).toInt := fun q => c14 (Int32.toInt_inj.mp q); have u_c15 : ¬ (c).toInt < ((57344 : Int32)).toInt := fun q => c15 (Int32.lt_iff_toInt_lt.mpr q); have u_c18 : ((65533 : Int32)).toInt < (c).toInt := Int32.lt_iff_toInt_lt.mp c18; have u_c19 : ¬ (c).toInt < ((65536 : Int32)).toInt := fun q => c19 (Int32.lt_iff_toInt_lt.mpr q); have u_c20 : ¬ ((1114111 : Int32)).toInt < (c).toInt := fun q => c20 (Int32.lt_iff_toInt_lt.mpr q); unfold chOk; omega), rfl⟩⟩
              · have k : W1 l Z n0 (Q1 c h0) G s h0 0 0 54 #[.val (.int c)] [] := k.icT (pc' := 54) d1_39 (XT.ii_le_t c18) (by decide)
                have k : W1 l Z n0 (Q1 c h0) G s h0 0 0 59 #[.val (.int c)] [(.int (1 : Int32))] := (k.iconst (1) d1_54 rfl).goto (pc' := 59) d1_55 (by decide)
                exact k.outZ (Or.inr rfl) d1_59 (by decide) (by decide) ⟨rfl, (1 : Int32), rfl, Or.inl ⟨(by have u_c1 : ¬ (c).toInt < ((32 : Int32)).toInt := fun q => c1 (Int32.lt_iff_toInt_lt.mpr q); have u_c11 : ((55295 : Int32)).toInt < (c).toInt := Int32.lt_iff_toInt_lt.mp c11; have u_c12 : ¬ (c).toInt = ((9 : Int32)).toInt := fun q => c12 (Int32.toInt_inj.mp q); have u_c13 : ¬ (c).toInt = ((10 : Int32)).toInt := fun q => c13 (Int32.toInt_inj.mp q); have u_c14 : ¬ (c).toInt = ((13 : Int32)).toInt := fun q => c14 (Int32.toInt_inj.mp q); have u_c15 : ¬ (c).toInt < ((57344 : Int32)).toInt := fun q => c15 (Int32.lt_iff_toInt_lt.mpr q); have u_c18 : ¬ ((65533 : Int32)).toInt < (c).toInt := fun q => c18 (Int32.lt_iff_toInt_lt.mpr q); unfold chOk; omega), rfl⟩⟩
    · have k : W1 l Z n0 (Q1 c h0) G s h0 0 0 54 #[.val (.int c)] [] := k.icT (pc' := 54) d1_9 (XT.ii_le_t c11) (by decide)
      have k : W1 l Z n0 (Q1 c h0) G s h0 0 0 59 #[.val (.int c)] [(.int (1 : Int32))] := (k.iconst (1) d1_54 rfl).goto (pc' := 59) d1_55 (by decide)
      exact k.outZ (Or.inr rfl) d1_59 (by decide) (by decide) ⟨rfl, (1 : Int32), rfl, Or.inl ⟨(by have u_c1 : ¬ (c).toInt < ((32 : Int32)).toInt := fun q => c1 (Int32.lt_iff_toInt_lt.mpr q); have u_c11 : ¬ ((55295 : Int32)).toInt < (c).toInt := fun q => c11 (Int32.lt_iff_toInt_lt.mpr q); unfold chOk; omega), rfl⟩⟩
theorem d2_0 : decode method_3_code 0 = .ok (.iload_n 0, 1) := by decide +kernel
theorem d2_1 : decode method_3_code 1 = .ok (.ifCond .lt 13, 3) := by decide +kernel
theorem d2_4 : decode method_3_code 4 = .ok (.iload_n 0, 1) := by decide +kernel
theorem d2_5 : decode method_3_code 5 = .ok (.ldc 15, 2) := by decide +kernel
theorem d2_7 : decode method_3_code 7 = .ok (.if_icmp .gt 7, 3) := by decide +kernel
theorem d2_10 : decode method_3_code 10 = .ok (.iconst 1, 1) := by decide +kernel
theorem d2_11 : decode method_3_code 11 = .ok (.goto 4, 3) := by decide +kernel
theorem d2_14 : decode method_3_code 14 = .ok (.iconst 0, 1) := by decide +kernel
theorem d2_15 : decode method_3_code 15 = .ok (.istore_n 1, 1) := by decide +kernel
theorem d2_16 : decode method_3_code 16 = .ok (.iload_n 0, 1) := by decide +kernel
theorem d2_17 : decode method_3_code 17 = .ok (.bipush 32, 2) := by decide +kernel
theorem d2_19 : decode method_3_code 19 = .ok (.if_icmp .ge 25, 3) := by decide +kernel
theorem d2_22 : decode method_3_code 22 = .ok (.iload_n 0, 1) := by decide +kernel
theorem d2_23 : decode method_3_code 23 = .ok (.bipush 9, 2) := by decide +kernel
theorem d2_25 : decode method_3_code 25 = .ok (.if_icmp .eq 19, 3) := by decide +kernel
theorem d2_28 : decode method_3_code 28 = .ok (.iload_n 0, 1) := by decide +kernel
theorem d2_29 : decode method_3_code 29 = .ok (.bipush 10, 2) := by decide +kernel
theorem d2_31 : decode method_3_code 31 = .ok (.if_icmp .eq 13, 3) := by decide +kernel
theorem d2_34 : decode method_3_code 34 = .ok (.iload_n 0, 1) := by decide +kernel
theorem d2_35 : decode method_3_code 35 = .ok (.bipush 13, 2) := by decide +kernel
theorem d2_37 : decode method_3_code 37 = .ok (.if_icmp .eq 7, 3) := by decide +kernel
theorem d2_40 : decode method_3_code 40 = .ok (.iconst 1, 1) := by decide +kernel
theorem d2_41 : decode method_3_code 41 = .ok (.goto 4, 3) := by decide +kernel
theorem d2_44 : decode method_3_code 44 = .ok (.iconst 0, 1) := by decide +kernel
theorem d2_45 : decode method_3_code 45 = .ok (.istore_n 2, 1) := by decide +kernel
theorem d2_46 : decode method_3_code 46 = .ok (.iload_n 0, 1) := by decide +kernel
theorem d2_47 : decode method_3_code 47 = .ok (.bipush 11, 2) := by decide +kernel
theorem d2_49 : decode method_3_code 49 = .ok (.iushr, 1) := by decide +kernel
theorem d2_50 : decode method_3_code 50 = .ok (.bipush 27, 2) := by decide +kernel
theorem d2_52 : decode method_3_code 52 = .ok (.if_icmp .ne 7, 3) := by decide +kernel
theorem d2_55 : decode method_3_code 55 = .ok (.iconst 1, 1) := by decide +kernel
theorem d2_56 : decode method_3_code 56 = .ok (.goto 4, 3) := by decide +kernel
theorem d2_59 : decode method_3_code 59 = .ok (.iconst 0, 1) := by decide +kernel
theorem d2_60 : decode method_3_code 60 = .ok (.istore_n 3, 1) := by decide +kernel
theorem d2_61 : decode method_3_code 61 = .ok (.iload_n 0, 1) := by decide +kernel
theorem d2_62 : decode method_3_code 62 = .ok (.ldc 12, 2) := by decide +kernel
theorem d2_64 : decode method_3_code 64 = .ok (.if_icmp .eq 9, 3) := by decide +kernel
theorem d2_67 : decode method_3_code 67 = .ok (.iload_n 0, 1) := by decide +kernel
theorem d2_68 : decode method_3_code 68 = .ok (.ldc 13, 2) := by decide +kernel
theorem d2_70 : decode method_3_code 70 = .ok (.if_icmp .ne 7, 3) := by decide +kernel
theorem d2_73 : decode method_3_code 73 = .ok (.iconst 1, 1) := by decide +kernel
theorem d2_74 : decode method_3_code 74 = .ok (.goto 4, 3) := by decide +kernel
theorem d2_77 : decode method_3_code 77 = .ok (.iconst 0, 1) := by decide +kernel
theorem d2_78 : decode method_3_code 78 = .ok (.istore 4, 2) := by decide +kernel
theorem d2_80 : decode method_3_code 80 = .ok (.iload_n 1, 1) := by decide +kernel
theorem d2_81 : decode method_3_code 81 = .ok (.ifCond .eq 20, 3) := by decide +kernel
theorem d2_84 : decode method_3_code 84 = .ok (.iload_n 2, 1) := by decide +kernel
theorem d2_85 : decode method_3_code 85 = .ok (.ifCond .ne 16, 3) := by decide +kernel
theorem d2_88 : decode method_3_code 88 = .ok (.iload_n 3, 1) := by decide +kernel
theorem d2_89 : decode method_3_code 89 = .ok (.ifCond .ne 12, 3) := by decide +kernel
theorem d2_92 : decode method_3_code 92 = .ok (.iload 4, 2) := by decide +kernel
theorem d2_94 : decode method_3_code 94 = .ok (.ifCond .ne 7, 3) := by decide +kernel
theorem d2_97 : decode method_3_code 97 = .ok (.iconst 1, 1) := by decide +kernel
theorem d2_98 : decode method_3_code 98 = .ok (.goto 4, 3) := by decide +kernel
theorem d2_101 : decode method_3_code 101 = .ok (.iconst 0, 1) := by decide +kernel
theorem d2_102 : decode method_3_code 102 = .ok (.ireturn, 1) := by decide +kernel
theorem pn2 : plainFor (⟨"com/example/pcdata/pcdata/XmlCharsIsCharPinLaw", "expected", "(I)Z"⟩ : MethodName) = true := plainFor_of_name (show plainName "com/example/pcdata/pcdata/XmlCharsIsCharPinLaw" = true by first | (simp [plainName, overriddenIn]; done) | decide +kernel)
theorem pd2 : parseMethodDescriptor "(I)Z" = some ⟨[.int], some .boolean⟩ := by decide +kernel
abbrev W2 (l : Launch) (Z : State) (n0 : Nat) (P : Option Value → Heap → Prop) (G : Prop) (s : State) := Wk l Z ({ frames := 0, cells := 0, slots := 0, locals := 0 } : Room) (⟨"com/example/pcdata/pcdata/XmlCharsIsCharPinLaw", "expected", "(I)Z"⟩ : MethodName) method_3_code 5 (some .boolean) n0 (Ex s ({ frames := 0, cells := 0, slots := 0, locals := 0 } : Room) n0 P G) s
theorem own_sur (c : Int32) : XT.ushr c (11 : Int32) = (27 : Int32) ↔ (55296 ≤ c.toInt ∧ c.toInt ≤ 57343) := by
  have u : (XT.ushr c (11 : Int32)).toBitVec = c.toBitVec >>> 11 := rfl
  have n : (c.toBitVec >>> 11).toNat = c.toBitVec.toNat / 2048 := by rw [BitVec.toNat_ushiftRight, Nat.shiftRight_eq_div_pow]
  have t : c.toInt = if 2 * c.toBitVec.toNat < 2 ^ 32 then (c.toBitVec.toNat : Int) else (c.toBitVec.toNat : Int) - (2 ^ 32 : Nat) := BitVec.toInt_eq_toNat_cond c.toBitVec
  have b := c.toBitVec.isLt
  have q : XT.ushr c (11 : Int32) = (27 : Int32) ↔ c.toBitVec.toNat / 2048 = 27 := by
    rw [← Int32.toBitVec_inj, u, ← n]
    exact ⟨fun h => by rw [h]; rfl, fun h => BitVec.eq_of_toNat_eq (h.trans rfl)⟩
  rw [q]
  split at t <;> omega
abbrev Q2 (c : Int32) (h0 : Heap) : Option Value → Heap → Prop := Q1 c h0
set_option maxRecDepth 65536 in
set_option maxHeartbeats 40000000 in
theorem con2 (l : Launch) (Z : State) (a0 : Array Value) (hw : ∀ d ∈ tables_1, d.before a0 Z = true) (c : Int32) (h0 : Heap) (n0 : Nat) : Con l Z (⟨"com/example/pcdata/pcdata/XmlCharsIsCharPinLaw", "expected", "(I)Z"⟩ : MethodName) method_3_code 5 (some .boolean) ({ frames := 0, cells := 0, slots := 0, locals := 0 } : Room) #[.int c] h0 n0 (Q2 c h0) := by
  have e0 : (0 : Int32).toInt = 0 := rfl
  have e1 : (1 : Int32).toInt = 1 := rfl
  have e1114111 : (1114111 : Int32).toInt = 1114111 := rfl
  have e32 : (32 : Int32).toInt = 32 := rfl
  have e9 : (9 : Int32).toInt = 9 := rfl
  have e10 : (10 : Int32).toInt = 10 := rfl
  have e13 : (13 : Int32).toInt = 13 := rfl
  have e27 : (27 : Int32).toInt = 27 := rfl
  have e65534 : (65534 : Int32).toInt = 65534 := rfl
  have e65535 : (65535 : Int32).toInt = 65535 := rfl
  have sur := own_sur c
  refine Con.of pn2 (Ls := #[.val (.int c), .unset, .unset, .unset, .unset]) (fun m => by first | (simp [entryFrame, mkF, argsToLocals, Value.category]; done) | rfl) ?_
  intro G s k
  have k : W2 l Z n0 (Q2 c h0) G s h0 0 0 1 #[.val (.int c), .unset, .unset, .unset, .unset] [(.int c)] := k.iloadN d2_0 rfl
  obtain ⟨b1, hb1, k⟩ : ∃ b : Int32, (((0 ≤ c.toInt ∧ c.toInt ≤ 1114111) ∧ b.toInt = 1) ∨ (¬ (0 ≤ c.toInt ∧ c.toInt ≤ 1114111) ∧ b.toInt = 0)) ∧ W2 l Z n0 (Q2 c h0) G s h0 0 0 15 #[.val (.int c), .unset, .unset, .unset, .unset] [(.int b)] := by
    by_cases c21 : c < 0
    · have k : W2 l Z n0 (Q2 c h0) G s h0 0 0 14 #[.val (.int c), .unset, .unset, .unset, .unset] [] := k.ifT (pc' := 14) d2_1 (XT.i0_lt_t c21) (by decide)
      have k : W2 l Z n0 (Q2 c h0) G s h0 0 0 15 #[.val (.int c), .unset, .unset, .unset, .unset] [(.int (0 : Int32))] := k.iconst (0) d2_14 rfl
      exact ⟨(0 : Int32), Or.inr ⟨(by have u_c21 : (c).toInt < ((0 : Int32)).toInt := Int32.lt_iff_toInt_lt.mp c21; omega), rfl⟩, k⟩
    · have k : W2 l Z n0 (Q2 c h0) G s h0 0 0 4 #[.val (.int c), .unset, .unset, .unset, .unset] [] := k.ifF d2_1 (XT.i0_lt_f c21)
      have k : W2 l Z n0 (Q2 c h0) G s h0 0 0 7 #[.val (.int c), .unset, .unset, .unset, .unset] [(.int (1114111 : Int32)), (.int c)] := (k.iloadN d2_4 rfl).ldc (hw _ (List.mem_of_getElem? (i := 9) rfl)) d2_5
      by_cases c22 : (1114111 : Int32) < c
      · have k : W2 l Z n0 (Q2 c h0) G s h0 0 0 14 #[.val (.int c), .unset, .unset, .unset, .unset] [] := k.icT (pc' := 14) d2_7 (XT.ii_gt_t c22) (by decide)
        have k : W2 l Z n0 (Q2 c h0) G s h0 0 0 15 #[.val (.int c), .unset, .unset, .unset, .unset] [(.int (0 : Int32))] := k.iconst (0) d2_14 rfl
        exact ⟨(0 : Int32), Or.inr ⟨(by have u_c21 : ¬ (c).toInt < ((0 : Int32)).toInt := fun q => c21 (Int32.lt_iff_toInt_lt.mpr q); have u_c22 : ((1114111 : Int32)).toInt < (c).toInt := Int32.lt_iff_toInt_lt.mp c22; omega), rfl⟩, k⟩
      · have k : W2 l Z n0 (Q2 c h0) G s h0 0 0 10 #[.val (.int c), .unset, .unset, .unset, .unset] [] := k.icF d2_7 (XT.ii_gt_f c22)
        have k : W2 l Z n0 (Q2 c h0) G s h0 0 0 15 #[.val (.int c), .unset, .unset, .unset, .unset] [(.int (1 : Int32))] := (k.iconst (1) d2_10 rfl).goto (pc' := 15) d2_11 (by decide)
        exact ⟨(1 : Int32), Or.inl ⟨(by have u_c21 : ¬ (c).toInt < ((0 : Int32)).toInt := fun q => c21 (Int32.lt_iff_toInt_lt.mpr q); have u_c22 : ¬ ((1114111 : Int32)).toInt < (c).toInt := fun q => c22 (Int32.lt_iff_toInt_lt.mpr q); omega), rfl⟩, k⟩
  have k : W2 l Z n0 (Q2 c h0) G s h0 0 0 19 #[.val (.int c), .val (.int b1), .unset, .unset, .unset] [(.int (32 : Int32)), (.int c)] := ((k.istoreN d2_15 (Ls' := #[.val (.int c), .val (.int b1), .unset, .unset, .unset]) rfl).iloadN d2_16 rfl).bipush (32) d2_17 rfl
  obtain ⟨b2, hb2, k⟩ : ∃ b : Int32, (((c.toInt < 32 ∧ c.toInt ≠ 9 ∧ c.toInt ≠ 10 ∧ c.toInt ≠ 13) ∧ b.toInt = 1) ∨ (¬ (c.toInt < 32 ∧ c.toInt ≠ 9 ∧ c.toInt ≠ 10 ∧ c.toInt ≠ 13) ∧ b.toInt = 0)) ∧ W2 l Z n0 (Q2 c h0) G s h0 0 0 45 #[.val (.int c), .val (.int b1), .unset, .unset, .unset] [(.int b)] := by
    by_cases c23 : c < (32 : Int32)
    · have k : W2 l Z n0 (Q2 c h0) G s h0 0 0 22 #[.val (.int c), .val (.int b1), .unset, .unset, .unset] [] := k.icF d2_19 (XT.ii_ge_f c23)
      have k : W2 l Z n0 (Q2 c h0) G s h0 0 0 25 #[.val (.int c), .val (.int b1), .unset, .unset, .unset] [(.int (9 : Int32)), (.int c)] := (k.iloadN d2_22 rfl).bipush (9) d2_23 rfl
      by_cases c24 : c = (9 : Int32)
      · have k : W2 l Z n0 (Q2 c h0) G s h0 0 0 44 #[.val (.int c), .val (.int b1), .unset, .unset, .unset] [] := k.icT (pc' := 44) d2_25 (XT.ii_eq_t c24) (by decide)
        have k : W2 l Z n0 (Q2 c h0) G s h0 0 0 45 #[.val (.int c), .val (.int b1), .unset, .unset, .unset] [(.int (0 : Int32))] := k.iconst (0) d2_44 rfl
        exact ⟨(0 : Int32), Or.inr ⟨(by have u_c23 : (c).toInt < ((32 : Int32)).toInt := Int32.lt_iff_toInt_lt.mp c23; have u_c24 : (c).toInt = ((9 : Int32)).toInt := congrArg Int32.toInt c24; omega), rfl⟩, k⟩
      · have k : W2 l Z n0 (Q2 c h0) G s h0 0 0 28 #[.val (.int c), .val (.int b1), .unset, .unset, .unset] [] := k.icF d2_25 (XT.ii_eq_f c24)
        have k : W2 l Z n0 (Q2 c h0) G s h0 0 0 31 #[.val (.int c), .val (.int b1), .unset, .unset, .unset] [(.int (10 : Int32)), (.int c)] := (k.iloadN d2_28 rfl).bipush (10) d2_29 rfl
        by_cases c25 : c = (10 : Int32)
        · have k : W2 l Z n0 (Q2 c h0) G s h0 0 0 44 #[.val (.int c), .val (.int b1), .unset, .unset, .unset] [] := k.icT (pc' := 44) d2_31 (XT.ii_eq_t c25) (by decide)
          have k : W2 l Z n0 (Q2 c h0) G s h0 0 0 45 #[.val (.int c), .val (.int b1), .unset, .unset, .unset] [(.int (0 : Int32))] := k.iconst (0) d2_44 rfl
          exact ⟨(0 : Int32), Or.inr ⟨(by have u_c23 : (c).toInt < ((32 : Int32)).toInt := Int32.lt_iff_toInt_lt.mp c23; have u_c24 : ¬ (c).toInt = ((9 : Int32)).toInt := fun q => c24 (Int32.toInt_inj.mp q); have u_c25 : (c).toInt = ((10 : Int32)).toInt := congrArg Int32.toInt c25; omega), rfl⟩, k⟩
        · have k : W2 l Z n0 (Q2 c h0) G s h0 0 0 34 #[.val (.int c), .val (.int b1), .unset, .unset, .unset] [] := k.icF d2_31 (XT.ii_eq_f c25)
          have k : W2 l Z n0 (Q2 c h0) G s h0 0 0 37 #[.val (.int c), .val (.int b1), .unset, .unset, .unset] [(.int (13 : Int32)), (.int c)] := (k.iloadN d2_34 rfl).bipush (13) d2_35 rfl
          by_cases c26 : c = (13 : Int32)
          · have k : W2 l Z n0 (Q2 c h0) G s h0 0 0 44 #[.val (.int c), .val (.int b1), .unset, .unset, .unset] [] := k.icT (pc' := 44) d2_37 (XT.ii_eq_t c26) (by decide)
            have k : W2 l Z n0 (Q2 c h0) G s h0 0 0 45 #[.val (.int c), .val (.int b1), .unset, .unset, .unset] [(.int (0 : Int32))] := k.iconst (0) d2_44 rfl
            exact ⟨(0 : Int32), Or.inr ⟨(by have u_c23 : (c).toInt < ((32 : Int32)).toInt := Int32.lt_iff_toInt_lt.mp c23; have u_c24 : ¬ (c).toInt = ((9 : Int32)).toInt := fun q => c24 (Int32.toInt_inj.mp q); have u_c25 : ¬ (c).toInt = ((10 : Int32)).toInt := fun q => c25 (Int32.toInt_inj.mp q); have u_c26 : (c).toInt = ((13 : Int32)).toInt := congrArg Int32.toInt c26; omega), rfl⟩, k⟩
          · have k : W2 l Z n0 (Q2 c h0) G s h0 0 0 40 #[.val (.int c), .val (.int b1), .unset, .unset, .unset] [] := k.icF d2_37 (XT.ii_eq_f c26)
            have k : W2 l Z n0 (Q2 c h0) G s h0 0 0 45 #[.val (.int c), .val (.int b1), .unset, .unset, .unset] [(.int (1 : Int32))] := (k.iconst (1) d2_40 rfl).goto (pc' := 45) d2_41 (by decide)
            exact ⟨(1 : Int32), Or.inl ⟨(by have u_c23 : (c).toInt < ((32 : Int32)).toInt := Int32.lt_iff_toInt_lt.mp c23; have u_c24 : ¬ (c).toInt = ((9 : Int32)).toInt := fun q => c24 (Int32.toInt_inj.mp q); have u_c25 : ¬ (c).toInt = ((10 : Int32)).toInt := fun q => c25 (Int32.toInt_inj.mp q); have u_c26 : ¬ (c).toInt = ((13 : Int32)).toInt := fun q => c26 (Int32.toInt_inj.mp q); omega), rfl⟩, k⟩
    · have k : W2 l Z n0 (Q2 c h0) G s h0 0 0 44 #[.val (.int c), .val (.int b1), .unset, .unset, .unset] [] := k.icT (pc' := 44) d2_19 (XT.ii_ge_t c23) (by decide)
      have k : W2 l Z n0 (Q2 c h0) G s h0 0 0 45 #[.val (.int c), .val (.int b1), .unset, .unset, .unset] [(.int (0 : Int32))] := k.iconst (0) d2_44 rfl
      exact ⟨(0 : Int32), Or.inr ⟨(by have u_c23 : ¬ (c).toInt < ((32 : Int32)).toInt := fun q => c23 (Int32.lt_iff_toInt_lt.mpr q); omega), rfl⟩, k⟩
  have k : W2 l Z n0 (Q2 c h0) G s h0 0 0 52 #[.val (.int c), .val (.int b1), .val (.int b2), .unset, .unset] [(.int (27 : Int32)), (.int (XT.ushr c (11 : Int32)))] := ((((k.istoreN d2_45 (Ls' := #[.val (.int c), .val (.int b1), .val (.int b2), .unset, .unset]) rfl).iloadN d2_46 rfl).bipush (11) d2_47 rfl).iushr d2_49).bipush (27) d2_50 rfl
  obtain ⟨b3, hb3, k⟩ : ∃ b : Int32, (((55296 ≤ c.toInt ∧ c.toInt ≤ 57343) ∧ b.toInt = 1) ∨ (¬ (55296 ≤ c.toInt ∧ c.toInt ≤ 57343) ∧ b.toInt = 0)) ∧ W2 l Z n0 (Q2 c h0) G s h0 0 0 60 #[.val (.int c), .val (.int b1), .val (.int b2), .unset, .unset] [(.int b)] := by
    by_cases c27 : (XT.ushr c (11 : Int32)) = (27 : Int32)
    · have k : W2 l Z n0 (Q2 c h0) G s h0 0 0 55 #[.val (.int c), .val (.int b1), .val (.int b2), .unset, .unset] [] := k.icF d2_52 (XT.ii_ne_f c27)
      have k : W2 l Z n0 (Q2 c h0) G s h0 0 0 60 #[.val (.int c), .val (.int b1), .val (.int b2), .unset, .unset] [(.int (1 : Int32))] := (k.iconst (1) d2_55 rfl).goto (pc' := 60) d2_56 (by decide)
      exact ⟨(1 : Int32), Or.inl ⟨(by have z_c27 := sur.mp c27; omega), rfl⟩, k⟩
    · have k : W2 l Z n0 (Q2 c h0) G s h0 0 0 59 #[.val (.int c), .val (.int b1), .val (.int b2), .unset, .unset] [] := k.icT (pc' := 59) d2_52 (XT.ii_ne_t c27) (by decide)
      have k : W2 l Z n0 (Q2 c h0) G s h0 0 0 60 #[.val (.int c), .val (.int b1), .val (.int b2), .unset, .unset] [(.int (0 : Int32))] := k.iconst (0) d2_59 rfl
      exact ⟨(0 : Int32), Or.inr ⟨(by have z_c27 := fun q => c27 (sur.mpr q); omega), rfl⟩, k⟩
  have k : W2 l Z n0 (Q2 c h0) G s h0 0 0 64 #[.val (.int c), .val (.int b1), .val (.int b2), .val (.int b3), .unset] [(.int (65534 : Int32)), (.int c)] := ((k.istoreN d2_60 (Ls' := #[.val (.int c), .val (.int b1), .val (.int b2), .val (.int b3), .unset]) rfl).iloadN d2_61 rfl).ldc (hw _ (List.mem_of_getElem? (i := 6) rfl)) d2_62
  obtain ⟨b4, hb4, k⟩ : ∃ b : Int32, (((c.toInt = 65534 ∨ c.toInt = 65535) ∧ b.toInt = 1) ∨ (¬ (c.toInt = 65534 ∨ c.toInt = 65535) ∧ b.toInt = 0)) ∧ W2 l Z n0 (Q2 c h0) G s h0 0 0 78 #[.val (.int c), .val (.int b1), .val (.int b2), .val (.int b3), .unset] [(.int b)] := by
    by_cases c28 : c = (65534 : Int32)
    · have k : W2 l Z n0 (Q2 c h0) G s h0 0 0 73 #[.val (.int c), .val (.int b1), .val (.int b2), .val (.int b3), .unset] [] := k.icT (pc' := 73) d2_64 (XT.ii_eq_t c28) (by decide)
      have k : W2 l Z n0 (Q2 c h0) G s h0 0 0 78 #[.val (.int c), .val (.int b1), .val (.int b2), .val (.int b3), .unset] [(.int (1 : Int32))] := (k.iconst (1) d2_73 rfl).goto (pc' := 78) d2_74 (by decide)
      exact ⟨(1 : Int32), Or.inl ⟨(by have u_c28 : (c).toInt = ((65534 : Int32)).toInt := congrArg Int32.toInt c28; omega), rfl⟩, k⟩
    · have k : W2 l Z n0 (Q2 c h0) G s h0 0 0 67 #[.val (.int c), .val (.int b1), .val (.int b2), .val (.int b3), .unset] [] := k.icF d2_64 (XT.ii_eq_f c28)
      have k : W2 l Z n0 (Q2 c h0) G s h0 0 0 70 #[.val (.int c), .val (.int b1), .val (.int b2), .val (.int b3), .unset] [(.int (65535 : Int32)), (.int c)] := (k.iloadN d2_67 rfl).ldc (hw _ (List.mem_of_getElem? (i := 7) rfl)) d2_68
      by_cases c29 : c = (65535 : Int32)
      · have k : W2 l Z n0 (Q2 c h0) G s h0 0 0 73 #[.val (.int c), .val (.int b1), .val (.int b2), .val (.int b3), .unset] [] := k.icF d2_70 (XT.ii_ne_f c29)
        have k : W2 l Z n0 (Q2 c h0) G s h0 0 0 78 #[.val (.int c), .val (.int b1), .val (.int b2), .val (.int b3), .unset] [(.int (1 : Int32))] := (k.iconst (1) d2_73 rfl).goto (pc' := 78) d2_74 (by decide)
        exact ⟨(1 : Int32), Or.inl ⟨(by have u_c28 : ¬ (c).toInt = ((65534 : Int32)).toInt := fun q => c28 (Int32.toInt_inj.mp q); have u_c29 : (c).toInt = ((65535 : Int32)).toInt := congrArg Int32.toInt c29; omega), rfl⟩, k⟩
      · have k : W2 l Z n0 (Q2 c h0) G s h0 0 0 77 #[.val (.int c), .val (.int b1), .val (.int b2), .val (.int b3), .unset] [] := k.icT (pc' := 77) d2_70 (XT.ii_ne_t c29) (by decide)
        have k : W2 l Z n0 (Q2 c h0) G s h0 0 0 78 #[.val (.int c), .val (.int b1), .val (.int b2), .val (.int b3), .unset] [(.int (0 : Int32))] := k.iconst (0) d2_77 rfl
        exact ⟨(0 : Int32), Or.inr ⟨(by have u_c28 : ¬ (c).toInt = ((65534 : Int32)).toInt := fun q => c28 (Int32.toInt_inj.mp q); have u_c29 : ¬ (c).toInt = ((65535 : Int32)).toInt := fun q => c29 (Int32.toInt_inj.mp q); omega), rfl⟩, k⟩
  have k : W2 l Z n0 (Q2 c h0) G s h0 0 0 81 #[.val (.int c), .val (.int b1), .val (.int b2), .val (.int b3), .val (.int b4)] [(.int b1)] := (k.istore d2_78 (Ls' := #[.val (.int c), .val (.int b1), .val (.int b2), .val (.int b3), .val (.int b4)]) rfl).iloadN d2_80 rfl
  by_cases c30 : b1 = 0
  · have k : W2 l Z n0 (Q2 c h0) G s h0 0 0 101 #[.val (.int c), .val (.int b1), .val (.int b2), .val (.int b3), .val (.int b4)] [] := k.ifT (pc' := 101) d2_81 (XT.i0_eq_t c30) (by decide)
    have k : W2 l Z n0 (Q2 c h0) G s h0 0 0 102 #[.val (.int c), .val (.int b1), .val (.int b2), .val (.int b3), .val (.int b4)] [(.int (0 : Int32))] := k.iconst (0) d2_101 rfl
    exact k.outZ (Or.inl rfl) d2_102 (by decide) (by decide) ⟨rfl, (0 : Int32), rfl, Or.inr ⟨(by have u_c30 : (b1).toInt = ((0 : Int32)).toInt := congrArg Int32.toInt c30; unfold chOk; omega), rfl⟩⟩
  · have k : W2 l Z n0 (Q2 c h0) G s h0 0 0 84 #[.val (.int c), .val (.int b1), .val (.int b2), .val (.int b3), .val (.int b4)] [] := k.ifF d2_81 (XT.i0_eq_f c30)
    have k : W2 l Z n0 (Q2 c h0) G s h0 0 0 85 #[.val (.int c), .val (.int b1), .val (.int b2), .val (.int b3), .val (.int b4)] [(.int b2)] := k.iloadN d2_84 rfl
    by_cases c31 : b2 = 0
    · have k : W2 l Z n0 (Q2 c h0) G s h0 0 0 88 #[.val (.int c), .val (.int b1), .val (.int b2), .val (.int b3), .val (.int b4)] [] := k.ifF d2_85 (XT.i0_ne_f c31)
      have k : W2 l Z n0 (Q2 c h0) G s h0 0 0 89 #[.val (.int c), .val (.int b1), .val (.int b2), .val (.int b3), .val (.int b4)] [(.int b3)] := k.iloadN d2_88 rfl
      by_cases c32 : b3 = 0
      · have k : W2 l Z n0 (Q2 c h0) G s h0 0 0 92 #[.val (.int c), .val (.int b1), .val (.int b2), .val (.int b3), .val (.int b4)] [] := k.ifF d2_89 (XT.i0_ne_f c32)
        have k : W2 l Z n0 (Q2 c h0) G s h0 0 0 94 #[.val (.int c), .val (.int b1), .val (.int b2), .val (.int b3), .val (.int b4)] [(.int b4)] := k.iload d2_92 rfl
        by_cases c33 : b4 = 0
        · have k : W2 l Z n0 (Q2 c h0) G s h0 0 0 97 #[.val (.int c), .val (.int b1), .val (.int b2), .val (.int b3), .val (.int b4)] [] := k.ifF d2_94 (XT.i0_ne_f c33)
          have k : W2 l Z n0 (Q2 c h0) G s h0 0 0 102 #[.val (.int c), .val (.int b1), .val (.int b2), .val (.int b3), .val (.int b4)] [(.int (1 : Int32))] := (k.iconst (1) d2_97 rfl).goto (pc' := 102) d2_98 (by decide)
          exact k.outZ (Or.inr rfl) d2_102 (by decide) (by decide) ⟨rfl, (1 : Int32), rfl, Or.inl ⟨(by have u_c30 : ¬ (b1).toInt = ((0 : Int32)).toInt := fun q => c30 (Int32.toInt_inj.mp q); have u_c31 : (b2).toInt = ((0 : Int32)).toInt := congrArg Int32.toInt c31; have u_c32 : (b3).toInt = ((0 : Int32)).toInt := congrArg Int32.toInt c32; have u_c33 : (b4).toInt = ((0 : Int32)).toInt := congrArg Int32.toInt c33; unfold chOk; omega), rfl⟩⟩
        · have k : W2 l Z n0 (Q2 c h0) G s h0 0 0 101 #[.val (.int c), .val (.int b1), .val (.int b2), .val (.int b3), .val (.int b4)] [] := k.ifT (pc' := 101) d2_94 (XT.i0_ne_t c33) (by decide)
          have k : W2 l Z n0 (Q2 c h0) G s h0 0 0 102 #[.val (.int c), .val (.int b1), .val (.int b2), .val (.int b3), .val (.int b4)] [(.int (0 : Int32))] := k.iconst (0) d2_101 rfl
          exact k.outZ (Or.inl rfl) d2_102 (by decide) (by decide) ⟨rfl, (0 : Int32), rfl, Or.inr ⟨(by have u_c30 : ¬ (b1).toInt = ((0 : Int32)).toInt := fun q => c30 (Int32.toInt_inj.mp q); have u_c31 : (b2).toInt = ((0 : Int32)).toInt := congrArg Int32.toInt c31; have u_c32 : (b3).toInt = ((0 : Int32)).toInt := congrArg Int32.toInt c32; have u_c33 : ¬ (b4).toInt = ((0 : Int32)).toInt := fun q => c33 (Int32.toInt_inj.mp q); unfold chOk; omega), rfl⟩⟩
      · have k : W2 l Z n0 (Q2 c h0) G s h0 0 0 101 #[.val (.int c), .val (.int b1), .val (.int b2), .val (.int b3), .val (.int b4)] [] := k.ifT (pc' := 101) d2_89 (XT.i0_ne_t c32) (by decide)
        have k : W2 l Z n0 (Q2 c h0) G s h0 0 0 102 #[.val (.int c), .val (.int b1), .val (.int b2), .val (.int b3), .val (.int b4)] [(.int (0 : Int32))] := k.iconst (0) d2_101 rfl
        exact k.outZ (Or.inl rfl) d2_102 (by decide) (by decide) ⟨rfl, (0 : Int32), rfl, Or.inr ⟨(by have u_c30 : ¬ (b1).toInt = ((0 : Int32)).toInt := fun q => c30 (Int32.toInt_inj.mp q); have u_c31 : (b2).toInt = ((0 : Int32)).toInt := congrArg Int32.toInt c31; have u_c32 : ¬ (b3).toInt = ((0 : Int32)).toInt := fun q => c32 (Int32.toInt_inj.mp q); unfold chOk; omega), rfl⟩⟩
    · have k : W2 l Z n0 (Q2 c h0) G s h0 0 0 101 #[.val (.int c), .val (.int b1), .val (.int b2), .val (.int b3), .val (.int b4)] [] := k.ifT (pc' := 101) d2_85 (XT.i0_ne_t c31) (by decide)
      have k : W2 l Z n0 (Q2 c h0) G s h0 0 0 102 #[.val (.int c), .val (.int b1), .val (.int b2), .val (.int b3), .val (.int b4)] [(.int (0 : Int32))] := k.iconst (0) d2_101 rfl
      exact k.outZ (Or.inl rfl) d2_102 (by decide) (by decide) ⟨rfl, (0 : Int32), rfl, Or.inr ⟨(by have u_c30 : ¬ (b1).toInt = ((0 : Int32)).toInt := fun q => c30 (Int32.toInt_inj.mp q); have u_c31 : ¬ (b2).toInt = ((0 : Int32)).toInt := fun q => c31 (Int32.toInt_inj.mp q); unfold chOk; omega), rfl⟩⟩
theorem pn0 : plainFor x = true := plainFor_of_name (show plainName "com/example/pcdata/pcdata/XmlCharsIsCharPinLaw" = true by first | (simp [plainName, overriddenIn]; done) | decide +kernel)
abbrev W0 (l : Launch) (Z : State) (n0 : Nat) (P : Option Value → Heap → Prop) (G : Prop) (s : State) := Wk l Z room_1 x code maxLocals ret n0 (Ex s room_1 n0 P G) s
theorem own_idx (xs : List Int32) {i : Nat} (hi : i < xs.length) : ∃ v : Int32, (xs.map Value.int)[i]? = some (.int v) := ⟨xs[i], by rw [List.getElem?_map, List.getElem?_eq_getElem hi]; rfl⟩
theorem own_rem17 (s : Int32) : ¬ ((XT.ushr s (1 : Int32)) % (17 : Int32) < 0) ∧ ((XT.ushr s (1 : Int32)) % (17 : Int32)).toNatClampNeg < 17 := by
  have e0 : (0 : Int32) ≤ XT.ushr s (1 : Int32) := Jvm.Kit.i32_iushr_nonneg s (n := ((1 : Int32) &&& 31).toUInt32) (k := 1) (by decide) (by decide) (by decide)
  have e1 : 0 ≤ (XT.ushr s (1 : Int32)).toInt := Jvm.Kit.i32_nonneg.mp e0
  have e2 : ((XT.ushr s (1 : Int32)) % (17 : Int32)).toInt = (XT.ushr s (1 : Int32)).toInt % (17 : Int32).toInt := Jvm.Kit.i32_rem_nonneg e1
  have e3 : (17 : Int32).toInt = 17 := rfl
  rw [e3] at e2
  have e4 : (0 : Int32).toInt = 0 := rfl
  refine ⟨?_, ?_⟩
  · rw [Int32.lt_iff_toInt_lt]; omega
  · show ((XT.ushr s (1 : Int32)) % (17 : Int32)).toInt.toNat < 17
    omega
abbrev Q0 : Option Value → Heap → Prop := fun v h => v = some (.int 1)
set_option maxRecDepth 65536 in
set_option maxHeartbeats 40000000 in
theorem con0 (l : Launch) (Z : State) (a0 : Array Value) (hw : ∀ d ∈ tables_1, d.before a0 Z = true) (p0 p1 p2 : Int32) (h0 : Heap) (n0 : Nat) (Z0 : n0 ≤ h0.size) : Con l Z x code maxLocals ret room_1 #[.int p0, .int p1, .int p2] h0 n0 Q0 := by
  refine Con.of pn0 (Ls := #[.val (.int p0), .val (.int p1), .val (.int p2), .unset, .unset]) (fun m => by first | (simp [entryFrame, mkF, argsToLocals, Value.category, maxLocals]; done) | rfl) ?_
  intro G s k
  have k : W0 l Z n0 Q0 G s h0 0 0 2 #[.val (.int p0), .val (.int p1), .val (.int p2), .unset, .unset] [(.int (17 : Int32))] := k.bipush (17) at_0 rfl
  obtain ⟨h34, K34, A34, k⟩ := k.newA (hw _ (List.mem_of_getElem? (i := 0) rfl)) at_2 17 rfl (by decide) (by decide) (by decide) (by decide)
  obtain ⟨a34, ea34⟩ : ∃ z, z = h0.size := ⟨_, rfl⟩
  rw [← ea34] at A34 k
  have n_a34 : n0 ≤ a34 := by omega
  have A34 : AV Z h34 a34 .int [(.int (0 : Int32)), (.int (0 : Int32)), (.int (0 : Int32)), (.int (0 : Int32)), (.int (0 : Int32)), (.int (0 : Int32)), (.int (0 : Int32)), (.int (0 : Int32)), (.int (0 : Int32)), (.int (0 : Int32)), (.int (0 : Int32)), (.int (0 : Int32)), (.int (0 : Int32)), (.int (0 : Int32)), (.int (0 : Int32)), (.int (0 : Int32)), (.int (0 : Int32))] := A34
  have s_h34 : n0 ≤ h34.size := Nat.le_trans (by omega) K34.1
  have k : W0 l Z n0 Q0 G s h34 1 17 4 #[.val (.int p0), .val (.int p1), .val (.int p2), .unset, .unset] [(.ref a34)] := k
  have k : W0 l Z n0 Q0 G s h34 1 17 7 #[.val (.int p0), .val (.int p1), .val (.int p2), .unset, .unset] [(.int (0 : Int32)), (.int (0 : Int32)), (.ref a34), (.ref a34)] := ((k.dup at_4 rfl).iconst (0) at_5 rfl).iconst (0) at_6 rfl
  obtain ⟨h35, K35, A34', k⟩ := k.stI A34 0 rfl (by decide) (by simp) n_a34 at_7
  have A34 : AV Z h35 a34 .int [(.int (0 : Int32)), (.int (0 : Int32)), (.int (0 : Int32)), (.int (0 : Int32)), (.int (0 : Int32)), (.int (0 : Int32)), (.int (0 : Int32)), (.int (0 : Int32)), (.int (0 : Int32)), (.int (0 : Int32)), (.int (0 : Int32)), (.int (0 : Int32)), (.int (0 : Int32)), (.int (0 : Int32)), (.int (0 : Int32)), (.int (0 : Int32)), (.int (0 : Int32))] := A34'
  have s_h35 : n0 ≤ h35.size := Nat.le_trans (by omega) K35.1
  have k : W0 l Z n0 Q0 G s h35 1 17 8 #[.val (.int p0), .val (.int p1), .val (.int p2), .unset, .unset] [(.ref a34)] := k
  have k : W0 l Z n0 Q0 G s h35 1 17 12 #[.val (.int p0), .val (.int p1), .val (.int p2), .unset, .unset] [(.int (9 : Int32)), (.int (1 : Int32)), (.ref a34), (.ref a34)] := ((k.dup at_8 rfl).iconst (1) at_9 rfl).bipush (9) at_10 rfl
  obtain ⟨h36, K36, A34', k⟩ := k.stI A34 1 rfl (by decide) (by simp) n_a34 at_12
  have A34 : AV Z h36 a34 .int [(.int (0 : Int32)), (.int (9 : Int32)), (.int (0 : Int32)), (.int (0 : Int32)), (.int (0 : Int32)), (.int (0 : Int32)), (.int (0 : Int32)), (.int (0 : Int32)), (.int (0 : Int32)), (.int (0 : Int32)), (.int (0 : Int32)), (.int (0 : Int32)), (.int (0 : Int32)), (.int (0 : Int32)), (.int (0 : Int32)), (.int (0 : Int32)), (.int (0 : Int32))] := A34'
  have s_h36 : n0 ≤ h36.size := Nat.le_trans (by omega) K36.1
  have k : W0 l Z n0 Q0 G s h36 1 17 13 #[.val (.int p0), .val (.int p1), .val (.int p2), .unset, .unset] [(.ref a34)] := k
  have k : W0 l Z n0 Q0 G s h36 1 17 17 #[.val (.int p0), .val (.int p1), .val (.int p2), .unset, .unset] [(.int (10 : Int32)), (.int (2 : Int32)), (.ref a34), (.ref a34)] := ((k.dup at_13 rfl).iconst (2) at_14 rfl).bipush (10) at_15 rfl
  obtain ⟨h37, K37, A34', k⟩ := k.stI A34 2 rfl (by decide) (by simp) n_a34 at_17
  have A34 : AV Z h37 a34 .int [(.int (0 : Int32)), (.int (9 : Int32)), (.int (10 : Int32)), (.int (0 : Int32)), (.int (0 : Int32)), (.int (0 : Int32)), (.int (0 : Int32)), (.int (0 : Int32)), (.int (0 : Int32)), (.int (0 : Int32)), (.int (0 : Int32)), (.int (0 : Int32)), (.int (0 : Int32)), (.int (0 : Int32)), (.int (0 : Int32)), (.int (0 : Int32)), (.int (0 : Int32))] := A34'
  have s_h37 : n0 ≤ h37.size := Nat.le_trans (by omega) K37.1
  have k : W0 l Z n0 Q0 G s h37 1 17 18 #[.val (.int p0), .val (.int p1), .val (.int p2), .unset, .unset] [(.ref a34)] := k
  have k : W0 l Z n0 Q0 G s h37 1 17 22 #[.val (.int p0), .val (.int p1), .val (.int p2), .unset, .unset] [(.int (13 : Int32)), (.int (3 : Int32)), (.ref a34), (.ref a34)] := ((k.dup at_18 rfl).iconst (3) at_19 rfl).bipush (13) at_20 rfl
  obtain ⟨h38, K38, A34', k⟩ := k.stI A34 3 rfl (by decide) (by simp) n_a34 at_22
  have A34 : AV Z h38 a34 .int [(.int (0 : Int32)), (.int (9 : Int32)), (.int (10 : Int32)), (.int (13 : Int32)), (.int (0 : Int32)), (.int (0 : Int32)), (.int (0 : Int32)), (.int (0 : Int32)), (.int (0 : Int32)), (.int (0 : Int32)), (.int (0 : Int32)), (.int (0 : Int32)), (.int (0 : Int32)), (.int (0 : Int32)), (.int (0 : Int32)), (.int (0 : Int32)), (.int (0 : Int32))] := A34'
  have s_h38 : n0 ≤ h38.size := Nat.le_trans (by omega) K38.1
  have k : W0 l Z n0 Q0 G s h38 1 17 23 #[.val (.int p0), .val (.int p1), .val (.int p2), .unset, .unset] [(.ref a34)] := k
  have k : W0 l Z n0 Q0 G s h38 1 17 27 #[.val (.int p0), .val (.int p1), .val (.int p2), .unset, .unset] [(.int (32 : Int32)), (.int (4 : Int32)), (.ref a34), (.ref a34)] := ((k.dup at_23 rfl).iconst (4) at_24 rfl).bipush (32) at_25 rfl
  obtain ⟨h39, K39, A34', k⟩ := k.stI A34 4 rfl (by decide) (by simp) n_a34 at_27
  have A34 : AV Z h39 a34 .int [(.int (0 : Int32)), (.int (9 : Int32)), (.int (10 : Int32)), (.int (13 : Int32)), (.int (32 : Int32)), (.int (0 : Int32)), (.int (0 : Int32)), (.int (0 : Int32)), (.int (0 : Int32)), (.int (0 : Int32)), (.int (0 : Int32)), (.int (0 : Int32)), (.int (0 : Int32)), (.int (0 : Int32)), (.int (0 : Int32)), (.int (0 : Int32)), (.int (0 : Int32))] := A34'
  have s_h39 : n0 ≤ h39.size := Nat.le_trans (by omega) K39.1
  have k : W0 l Z n0 Q0 G s h39 1 17 28 #[.val (.int p0), .val (.int p1), .val (.int p2), .unset, .unset] [(.ref a34)] := k
  have k : W0 l Z n0 Q0 G s h39 1 17 32 #[.val (.int p0), .val (.int p1), .val (.int p2), .unset, .unset] [(.int (55295 : Int32)), (.int (5 : Int32)), (.ref a34), (.ref a34)] := ((k.dup at_28 rfl).iconst (5) at_29 rfl).ldc (hw _ (List.mem_of_getElem? (i := 1) rfl)) at_30
  obtain ⟨h40, K40, A34', k⟩ := k.stI A34 5 rfl (by decide) (by simp) n_a34 at_32
  have A34 : AV Z h40 a34 .int [(.int (0 : Int32)), (.int (9 : Int32)), (.int (10 : Int32)), (.int (13 : Int32)), (.int (32 : Int32)), (.int (55295 : Int32)), (.int (0 : Int32)), (.int (0 : Int32)), (.int (0 : Int32)), (.int (0 : Int32)), (.int (0 : Int32)), (.int (0 : Int32)), (.int (0 : Int32)), (.int (0 : Int32)), (.int (0 : Int32)), (.int (0 : Int32)), (.int (0 : Int32))] := A34'
  have s_h40 : n0 ≤ h40.size := Nat.le_trans (by omega) K40.1
  have k : W0 l Z n0 Q0 G s h40 1 17 33 #[.val (.int p0), .val (.int p1), .val (.int p2), .unset, .unset] [(.ref a34)] := k
  have k : W0 l Z n0 Q0 G s h40 1 17 38 #[.val (.int p0), .val (.int p1), .val (.int p2), .unset, .unset] [(.int (55296 : Int32)), (.int (6 : Int32)), (.ref a34), (.ref a34)] := ((k.dup at_33 rfl).bipush (6) at_34 rfl).ldc (hw _ (List.mem_of_getElem? (i := 2) rfl)) at_36
  obtain ⟨h41, K41, A34', k⟩ := k.stI A34 6 rfl (by decide) (by simp) n_a34 at_38
  have A34 : AV Z h41 a34 .int [(.int (0 : Int32)), (.int (9 : Int32)), (.int (10 : Int32)), (.int (13 : Int32)), (.int (32 : Int32)), (.int (55295 : Int32)), (.int (55296 : Int32)), (.int (0 : Int32)), (.int (0 : Int32)), (.int (0 : Int32)), (.int (0 : Int32)), (.int (0 : Int32)), (.int (0 : Int32)), (.int (0 : Int32)), (.int (0 : Int32)), (.int (0 : Int32)), (.int (0 : Int32))] := A34'
  have s_h41 : n0 ≤ h41.size := Nat.le_trans (by omega) K41.1
  have k : W0 l Z n0 Q0 G s h41 1 17 39 #[.val (.int p0), .val (.int p1), .val (.int p2), .unset, .unset] [(.ref a34)] := k
  have k : W0 l Z n0 Q0 G s h41 1 17 44 #[.val (.int p0), .val (.int p1), .val (.int p2), .unset, .unset] [(.int (57343 : Int32)), (.int (7 : Int32)), (.ref a34), (.ref a34)] := ((k.dup at_39 rfl).bipush (7) at_40 rfl).ldc (hw _ (List.mem_of_getElem? (i := 3) rfl)) at_42
  obtain ⟨h42, K42, A34', k⟩ := k.stI A34 7 rfl (by decide) (by simp) n_a34 at_44
  have A34 : AV Z h42 a34 .int [(.int (0 : Int32)), (.int (9 : Int32)), (.int (10 : Int32)), (.int (13 : Int32)), (.int (32 : Int32)), (.int (55295 : Int32)), (.int (55296 : Int32)), (.int (57343 : Int32)), (.int (0 : Int32)), (.int (0 : Int32)), (.int (0 : Int32)), (.int (0 : Int32)), (.int (0 : Int32)), (.int (0 : Int32)), (.int (0 : Int32)), (.int (0 : Int32)), (.int (0 : Int32))] := A34'
  have s_h42 : n0 ≤ h42.size := Nat.le_trans (by omega) K42.1
  have k : W0 l Z n0 Q0 G s h42 1 17 45 #[.val (.int p0), .val (.int p1), .val (.int p2), .unset, .unset] [(.ref a34)] := k
  have k : W0 l Z n0 Q0 G s h42 1 17 50 #[.val (.int p0), .val (.int p1), .val (.int p2), .unset, .unset] [(.int (57344 : Int32)), (.int (8 : Int32)), (.ref a34), (.ref a34)] := ((k.dup at_45 rfl).bipush (8) at_46 rfl).ldc (hw _ (List.mem_of_getElem? (i := 4) rfl)) at_48
  obtain ⟨h43, K43, A34', k⟩ := k.stI A34 8 rfl (by decide) (by simp) n_a34 at_50
  have A34 : AV Z h43 a34 .int [(.int (0 : Int32)), (.int (9 : Int32)), (.int (10 : Int32)), (.int (13 : Int32)), (.int (32 : Int32)), (.int (55295 : Int32)), (.int (55296 : Int32)), (.int (57343 : Int32)), (.int (57344 : Int32)), (.int (0 : Int32)), (.int (0 : Int32)), (.int (0 : Int32)), (.int (0 : Int32)), (.int (0 : Int32)), (.int (0 : Int32)), (.int (0 : Int32)), (.int (0 : Int32))] := A34'
  have s_h43 : n0 ≤ h43.size := Nat.le_trans (by omega) K43.1
  have k : W0 l Z n0 Q0 G s h43 1 17 51 #[.val (.int p0), .val (.int p1), .val (.int p2), .unset, .unset] [(.ref a34)] := k
  have k : W0 l Z n0 Q0 G s h43 1 17 56 #[.val (.int p0), .val (.int p1), .val (.int p2), .unset, .unset] [(.int (65533 : Int32)), (.int (9 : Int32)), (.ref a34), (.ref a34)] := ((k.dup at_51 rfl).bipush (9) at_52 rfl).ldc (hw _ (List.mem_of_getElem? (i := 5) rfl)) at_54
  obtain ⟨h44, K44, A34', k⟩ := k.stI A34 9 rfl (by decide) (by simp) n_a34 at_56
  have A34 : AV Z h44 a34 .int [(.int (0 : Int32)), (.int (9 : Int32)), (.int (10 : Int32)), (.int (13 : Int32)), (.int (32 : Int32)), (.int (55295 : Int32)), (.int (55296 : Int32)), (.int (57343 : Int32)), (.int (57344 : Int32)), (.int (65533 : Int32)), (.int (0 : Int32)), (.int (0 : Int32)), (.int (0 : Int32)), (.int (0 : Int32)), (.int (0 : Int32)), (.int (0 : Int32)), (.int (0 : Int32))] := A34'
  have s_h44 : n0 ≤ h44.size := Nat.le_trans (by omega) K44.1
  have k : W0 l Z n0 Q0 G s h44 1 17 57 #[.val (.int p0), .val (.int p1), .val (.int p2), .unset, .unset] [(.ref a34)] := k
  have k : W0 l Z n0 Q0 G s h44 1 17 62 #[.val (.int p0), .val (.int p1), .val (.int p2), .unset, .unset] [(.int (65534 : Int32)), (.int (10 : Int32)), (.ref a34), (.ref a34)] := ((k.dup at_57 rfl).bipush (10) at_58 rfl).ldc (hw _ (List.mem_of_getElem? (i := 6) rfl)) at_60
  obtain ⟨h45, K45, A34', k⟩ := k.stI A34 10 rfl (by decide) (by simp) n_a34 at_62
  have A34 : AV Z h45 a34 .int [(.int (0 : Int32)), (.int (9 : Int32)), (.int (10 : Int32)), (.int (13 : Int32)), (.int (32 : Int32)), (.int (55295 : Int32)), (.int (55296 : Int32)), (.int (57343 : Int32)), (.int (57344 : Int32)), (.int (65533 : Int32)), (.int (65534 : Int32)), (.int (0 : Int32)), (.int (0 : Int32)), (.int (0 : Int32)), (.int (0 : Int32)), (.int (0 : Int32)), (.int (0 : Int32))] := A34'
  have s_h45 : n0 ≤ h45.size := Nat.le_trans (by omega) K45.1
  have k : W0 l Z n0 Q0 G s h45 1 17 63 #[.val (.int p0), .val (.int p1), .val (.int p2), .unset, .unset] [(.ref a34)] := k
  have k : W0 l Z n0 Q0 G s h45 1 17 68 #[.val (.int p0), .val (.int p1), .val (.int p2), .unset, .unset] [(.int (65535 : Int32)), (.int (11 : Int32)), (.ref a34), (.ref a34)] := ((k.dup at_63 rfl).bipush (11) at_64 rfl).ldc (hw _ (List.mem_of_getElem? (i := 7) rfl)) at_66
  obtain ⟨h46, K46, A34', k⟩ := k.stI A34 11 rfl (by decide) (by simp) n_a34 at_68
  have A34 : AV Z h46 a34 .int [(.int (0 : Int32)), (.int (9 : Int32)), (.int (10 : Int32)), (.int (13 : Int32)), (.int (32 : Int32)), (.int (55295 : Int32)), (.int (55296 : Int32)), (.int (57343 : Int32)), (.int (57344 : Int32)), (.int (65533 : Int32)), (.int (65534 : Int32)), (.int (65535 : Int32)), (.int (0 : Int32)), (.int (0 : Int32)), (.int (0 : Int32)), (.int (0 : Int32)), (.int (0 : Int32))] := A34'
  have s_h46 : n0 ≤ h46.size := Nat.le_trans (by omega) K46.1
  have k : W0 l Z n0 Q0 G s h46 1 17 69 #[.val (.int p0), .val (.int p1), .val (.int p2), .unset, .unset] [(.ref a34)] := k
  have k : W0 l Z n0 Q0 G s h46 1 17 74 #[.val (.int p0), .val (.int p1), .val (.int p2), .unset, .unset] [(.int (65536 : Int32)), (.int (12 : Int32)), (.ref a34), (.ref a34)] := ((k.dup at_69 rfl).bipush (12) at_70 rfl).ldc (hw _ (List.mem_of_getElem? (i := 8) rfl)) at_72
  obtain ⟨h47, K47, A34', k⟩ := k.stI A34 12 rfl (by decide) (by simp) n_a34 at_74
  have A34 : AV Z h47 a34 .int [(.int (0 : Int32)), (.int (9 : Int32)), (.int (10 : Int32)), (.int (13 : Int32)), (.int (32 : Int32)), (.int (55295 : Int32)), (.int (55296 : Int32)), (.int (57343 : Int32)), (.int (57344 : Int32)), (.int (65533 : Int32)), (.int (65534 : Int32)), (.int (65535 : Int32)), (.int (65536 : Int32)), (.int (0 : Int32)), (.int (0 : Int32)), (.int (0 : Int32)), (.int (0 : Int32))] := A34'
  have s_h47 : n0 ≤ h47.size := Nat.le_trans (by omega) K47.1
  have k : W0 l Z n0 Q0 G s h47 1 17 75 #[.val (.int p0), .val (.int p1), .val (.int p2), .unset, .unset] [(.ref a34)] := k
  have k : W0 l Z n0 Q0 G s h47 1 17 80 #[.val (.int p0), .val (.int p1), .val (.int p2), .unset, .unset] [(.int (1114111 : Int32)), (.int (13 : Int32)), (.ref a34), (.ref a34)] := ((k.dup at_75 rfl).bipush (13) at_76 rfl).ldc (hw _ (List.mem_of_getElem? (i := 9) rfl)) at_78
  obtain ⟨h48, K48, A34', k⟩ := k.stI A34 13 rfl (by decide) (by simp) n_a34 at_80
  have A34 : AV Z h48 a34 .int [(.int (0 : Int32)), (.int (9 : Int32)), (.int (10 : Int32)), (.int (13 : Int32)), (.int (32 : Int32)), (.int (55295 : Int32)), (.int (55296 : Int32)), (.int (57343 : Int32)), (.int (57344 : Int32)), (.int (65533 : Int32)), (.int (65534 : Int32)), (.int (65535 : Int32)), (.int (65536 : Int32)), (.int (1114111 : Int32)), (.int (0 : Int32)), (.int (0 : Int32)), (.int (0 : Int32))] := A34'
  have s_h48 : n0 ≤ h48.size := Nat.le_trans (by omega) K48.1
  have k : W0 l Z n0 Q0 G s h48 1 17 81 #[.val (.int p0), .val (.int p1), .val (.int p2), .unset, .unset] [(.ref a34)] := k
  have k : W0 l Z n0 Q0 G s h48 1 17 86 #[.val (.int p0), .val (.int p1), .val (.int p2), .unset, .unset] [(.int (1114112 : Int32)), (.int (14 : Int32)), (.ref a34), (.ref a34)] := ((k.dup at_81 rfl).bipush (14) at_82 rfl).ldc (hw _ (List.mem_of_getElem? (i := 10) rfl)) at_84
  obtain ⟨h49, K49, A34', k⟩ := k.stI A34 14 rfl (by decide) (by simp) n_a34 at_86
  have A34 : AV Z h49 a34 .int [(.int (0 : Int32)), (.int (9 : Int32)), (.int (10 : Int32)), (.int (13 : Int32)), (.int (32 : Int32)), (.int (55295 : Int32)), (.int (55296 : Int32)), (.int (57343 : Int32)), (.int (57344 : Int32)), (.int (65533 : Int32)), (.int (65534 : Int32)), (.int (65535 : Int32)), (.int (65536 : Int32)), (.int (1114111 : Int32)), (.int (1114112 : Int32)), (.int (0 : Int32)), (.int (0 : Int32))] := A34'
  have s_h49 : n0 ≤ h49.size := Nat.le_trans (by omega) K49.1
  have k : W0 l Z n0 Q0 G s h49 1 17 87 #[.val (.int p0), .val (.int p1), .val (.int p2), .unset, .unset] [(.ref a34)] := k
  have k : W0 l Z n0 Q0 G s h49 1 17 92 #[.val (.int p0), .val (.int p1), .val (.int p2), .unset, .unset] [(.int (-2147483648 : Int32)), (.int (15 : Int32)), (.ref a34), (.ref a34)] := ((k.dup at_87 rfl).bipush (15) at_88 rfl).ldc (hw _ (List.mem_of_getElem? (i := 11) rfl)) at_90
  obtain ⟨h50, K50, A34', k⟩ := k.stI A34 15 rfl (by decide) (by simp) n_a34 at_92
  have A34 : AV Z h50 a34 .int [(.int (0 : Int32)), (.int (9 : Int32)), (.int (10 : Int32)), (.int (13 : Int32)), (.int (32 : Int32)), (.int (55295 : Int32)), (.int (55296 : Int32)), (.int (57343 : Int32)), (.int (57344 : Int32)), (.int (65533 : Int32)), (.int (65534 : Int32)), (.int (65535 : Int32)), (.int (65536 : Int32)), (.int (1114111 : Int32)), (.int (1114112 : Int32)), (.int (-2147483648 : Int32)), (.int (0 : Int32))] := A34'
  have s_h50 : n0 ≤ h50.size := Nat.le_trans (by omega) K50.1
  have k : W0 l Z n0 Q0 G s h50 1 17 93 #[.val (.int p0), .val (.int p1), .val (.int p2), .unset, .unset] [(.ref a34)] := k
  have k : W0 l Z n0 Q0 G s h50 1 17 98 #[.val (.int p0), .val (.int p1), .val (.int p2), .unset, .unset] [(.int (2147483647 : Int32)), (.int (16 : Int32)), (.ref a34), (.ref a34)] := ((k.dup at_93 rfl).bipush (16) at_94 rfl).ldc (hw _ (List.mem_of_getElem? (i := 12) rfl)) at_96
  obtain ⟨h51, K51, A34', k⟩ := k.stI A34 16 rfl (by decide) (by simp) n_a34 at_98
  have A34 : AV Z h51 a34 .int [(.int (0 : Int32)), (.int (9 : Int32)), (.int (10 : Int32)), (.int (13 : Int32)), (.int (32 : Int32)), (.int (55295 : Int32)), (.int (55296 : Int32)), (.int (57343 : Int32)), (.int (57344 : Int32)), (.int (65533 : Int32)), (.int (65534 : Int32)), (.int (65535 : Int32)), (.int (65536 : Int32)), (.int (1114111 : Int32)), (.int (1114112 : Int32)), (.int (-2147483648 : Int32)), (.int (2147483647 : Int32))] := A34'
  have s_h51 : n0 ≤ h51.size := Nat.le_trans (by omega) K51.1
  have k : W0 l Z n0 Q0 G s h51 1 17 99 #[.val (.int p0), .val (.int p1), .val (.int p2), .unset, .unset] [(.ref a34)] := k
  have k : W0 l Z n0 Q0 G s h51 1 17 103 #[.val (.int p0), .val (.int p1), .val (.int p2), .val (.ref a34), .unset] [(.int (p1 &&& (1 : Int32)))] := (((k.astoreN at_99 rfl (Ls' := #[.val (.int p0), .val (.int p1), .val (.int p2), .val (.ref a34), .unset]) rfl).iloadN at_100 rfl).iconst (1) at_101 rfl).iand at_102
  obtain ⟨c, k⟩ : ∃ c : Int32, W0 l Z n0 Q0 G s h51 1 17 126 #[.val (.int p0), .val (.int p1), .val (.int p2), .val (.ref a34), .val (.int c)] [] := by
    by_cases c52 : (p1 &&& (1 : Int32)) = 0
    · have k : W0 l Z n0 Q0 G s h51 1 17 112 #[.val (.int p0), .val (.int p1), .val (.int p2), .val (.ref a34), .unset] [] := k.ifT (pc' := 112) at_103 (XT.i0_eq_t c52) (by decide)
      have k : W0 l Z n0 Q0 G s h51 1 17 119 #[.val (.int p0), .val (.int p1), .val (.int p2), .val (.ref a34), .unset] [(.int ((XT.ushr p1 (1 : Int32)) % (17 : Int32))), (.ref a34)] := (((((k.aloadN at_112 rfl rfl).iloadN at_113 rfl).iconst (1) at_114 rfl).iushr at_115).bipush (17) at_116 rfl).irem at_118 (by decide)
      obtain ⟨j0, j1⟩ := own_rem17 p1
      obtain ⟨v, hv⟩ := own_idx [(0 : Int32), (9 : Int32), (10 : Int32), (13 : Int32), (32 : Int32), (55295 : Int32), (55296 : Int32), (57343 : Int32), (57344 : Int32), (65533 : Int32), (65534 : Int32), (65535 : Int32), (65536 : Int32), (1114111 : Int32), (1114112 : Int32), (-2147483648 : Int32), (2147483647 : Int32)] (i := ((XT.ushr p1 (1 : Int32)) % (17 : Int32)).toNatClampNeg) j1
      have k : W0 l Z n0 Q0 G s h51 1 17 120 #[.val (.int p0), .val (.int p1), .val (.int p2), .val (.ref a34), .unset] [(.int v)] := k.ldI A34 j0 hv at_119
      have k : W0 l Z n0 Q0 G s h51 1 17 126 #[.val (.int p0), .val (.int p1), .val (.int p2), .val (.ref a34), .val (.int (v + (p2 % (3 : Int32))))] [] := ((((k.iloadN at_120 rfl).iconst (3) at_121 rfl).irem at_122 (by decide)).iadd at_123).istore at_124 (Ls' := #[.val (.int p0), .val (.int p1), .val (.int p2), .val (.ref a34), .val (.int (v + (p2 % (3 : Int32))))]) rfl
      exact ⟨_, k⟩
    · have k : W0 l Z n0 Q0 G s h51 1 17 106 #[.val (.int p0), .val (.int p1), .val (.int p2), .val (.ref a34), .unset] [] := k.ifF at_103 (XT.i0_eq_f c52)
      have k : W0 l Z n0 Q0 G s h51 1 17 126 #[.val (.int p0), .val (.int p1), .val (.int p2), .val (.ref a34), .val (.int p0)] [] := ((k.iloadN at_106 rfl).istore at_107 (Ls' := #[.val (.int p0), .val (.int p1), .val (.int p2), .val (.ref a34), .val (.int p0)]) rfl).goto (pc' := 126) at_109 (by decide)
      exact ⟨_, k⟩
  have k : W0 l Z n0 Q0 G s h51 1 17 128 #[.val (.int p0), .val (.int p1), .val (.int p2), .val (.ref a34), .val (.int c)] [(.int c)] := k.iload at_126 rfl
  obtain ⟨v53, h53, ⟨rfl, r53, rfl, hr53⟩, k⟩ := k.callS (hw _ (List.mem_of_getElem? (i := 13) rfl)) (hw _ (List.mem_of_getElem? (i := 14) rfl)) (hw _ (List.mem_of_getElem? (i := 15) rfl)) (hw _ (List.mem_of_getElem? (i := 16) rfl)) (by decide) (con1 l Z a0 hw c h51 n0) (argsL := [(.int c)]) (rest := []) (lenOf pd1 rfl) at_128 rfl rfl 0 (Nat.le_of_eq rfl) (by decide) (by decide) (by decide) (by decide)
  have k : W0 l Z n0 Q0 G s h51 1 17 131 #[.val (.int p0), .val (.int p1), .val (.int p2), .val (.ref a34), .val (.int c)] [(.int r53)] := k
  have k : W0 l Z n0 Q0 G s h51 1 17 133 #[.val (.int p0), .val (.int p1), .val (.int p2), .val (.ref a34), .val (.int c)] [(.int c), (.int r53)] := k.iload at_131 rfl
  obtain ⟨v54, h54, ⟨rfl, r54, rfl, hr54⟩, k⟩ := k.callS (hw _ (List.mem_of_getElem? (i := 19) rfl)) (hw _ (List.mem_of_getElem? (i := 20) rfl)) (hw _ (List.mem_of_getElem? (i := 21) rfl)) (hw _ (List.mem_of_getElem? (i := 22) rfl)) (by decide) (con2 l Z a0 hw c h51 n0) (argsL := [(.int c)]) (rest := [(.int r53)]) (lenOf pd2 rfl) at_133 rfl rfl 1 (Nat.le_of_eq rfl) (by decide) (by decide) (by decide) (by decide)
  have k : W0 l Z n0 Q0 G s h51 1 17 136 #[.val (.int p0), .val (.int p1), .val (.int p2), .val (.ref a34), .val (.int c)] [(.int r54), (.int r53)] := k
  have heq : r53 = r54 := Int32.toInt_inj.mp (by rcases hr53 with ⟨p1, p2⟩ | ⟨p1, p2⟩ <;> rcases hr54 with ⟨p3, p4⟩ | ⟨p3, p4⟩ <;> first | omega | exact absurd p1 p3 | exact absurd p3 p1)
  have k : W0 l Z n0 Q0 G s h51 1 17 139 #[.val (.int p0), .val (.int p1), .val (.int p2), .val (.ref a34), .val (.int c)] [] := k.icF at_136 (XT.ii_ne_f heq)
  have k : W0 l Z n0 Q0 G s h51 1 17 144 #[.val (.int p0), .val (.int p1), .val (.int p2), .val (.ref a34), .val (.int c)] [(.int (1 : Int32))] := (k.iconst (1) at_139 rfl).goto (pc' := 144) at_140 (by decide)
  exact k.outZ (Or.inr rfl) at_144 (by decide) (by decide) rfl
set_option maxRecDepth 65536 in
set_option maxHeartbeats 40000000 in
theorem comes_1 {Post : Tables → Env → Array Value → State → Outcome → State → Prop} (hpost : ∀ tb e args s v u, (limb_1_1.after args s (.returned v) u = true ∧ limb_1_2.after args s (.returned v) u = true ∧ True) → FrameEnd s (.returned v) u (Jvm.fieldLocs frame_1_writes args s ++ Jvm.arrayLocs frame_1_arrays args s ++ Jvm.staticLocs frame_1_statics s) 16 128 → Post tb e args s (.returned v) u) :
    ArmFor flags0 classFile x code maxLocals ret World_1 tables_1 room_1 Calls_1 rest_1 Pre_1 Post := by
  intro l hfl _ _ p e ha hc hk s m args below hf hA hF happ hP
  obtain ⟨hcalls, hrest, hpre⟩ := hP
  obtain ⟨-, -, -, hnamed, -, -, -, hat⟩ := (Spec.applies_iff hf).mp happ
  obtain ⟨hg, hn⟩ := and_e (Cond.before_iff.mp (show (Jvm.Cond.and given_1 narrow_1).before args s = true from hpre))
  obtain ⟨h1, g0⟩ := and_e hg
  obtain ⟨w0, w1, w2, rfl⟩ : ∃ w0 w1 w2 : Value, args = #[w0, w1, w2] := by
    have hs : args.size = 3 := by simpa [Cond.value, given_1] using h1
    obtain ⟨L⟩ := args
    match L, hs with
    | [w0, w1, w2], _ => exact ⟨w0, w1, w2, rfl⟩
  have hw := fun d (hd : d ∈ tables_1) => atoms_spec (ws := Jvm.Cond.code x code maxLocals ret :: tables_1) hat d (List.mem_cons_of_mem _ hd)
  obtain ⟨q0, g1⟩ := and_e g0
  obtain ⟨i0, e0⟩ := is_v q0
  obtain rfl : w0 = (.int i0) := Option.some.inj e0
  obtain ⟨q1, g2⟩ := and_e g1
  obtain ⟨i1, e1⟩ := is_v q1
  obtain rfl : w1 = (.int i1) := Option.some.inj e1
  have q2 := g2
  obtain ⟨i2, e2⟩ := is_v q2
  obtain rfl : w2 = (.int i2) := Option.some.inj e2
  obtain ⟨n, o, h1, h2, h3, _, L, rfl, ⟨N, rfl⟩, hq⟩ := con0 l s _ hw i0 i1 i2 s.heap s.heap.size (Nat.le_refl _) tables_1 p e ha hc hk s m _ below hf ((Spec.applies_iff_loose hf).mp happ).1 ⟨rfl, State.Warmed39.refl s, rfl⟩ trivial
  refine ⟨n, _, h1, h2, h3, hpost _ _ _ _ _ _ ⟨Cond.after_iff.mpr rfl, Cond.after_iff.mpr (eq_i res_at (Term.int_eval (1)) rfl), trivial⟩ ⟨hq.1, hq.2.1, (hq.2.2.sift fun y hy => Or.inr (N y hy)).mono (by decide) (by decide)⟩⟩
theorem main_1_1 : Claimed_1_1 := comes_1 fun _ _ _ _ _ _ h hF => ⟨h.1, hF⟩
theorem main_1_2 : Claimed_1_2 := comes_1 fun _ _ _ _ _ _ h hF => ⟨h.2.1, hF⟩
end Jvm.Pilot.@@N@@
namespace Jvm.Pilot.@@N@@
open Jvm Jvm.ClassFile Sem Op Lib Jvm.Free Jvm.Stand Jvm.Pilot.@@N@@.Jvm.D
/-! MADE BY PROGRAM (witnessworld.py) out of the Statement's table words and the real class files: 9 classes; the members and pool entries that the words name. The judged class is class 1, her method 1. -/
namespace start1
open Jvm.ClassFile
def u (s : String) : CpInfo := .utf8 (stringToUtf16 s)
/-- a pool by its gaps: so many unusable entries, then the entry; so many at the end -/
def gap : Nat → List CpInfo → List CpInfo
  | 0, r => r
  | n + 1, r => .unusable :: gap n r
def poolList (es : List (Nat × CpInfo)) (last : Nat) : List CpInfo := es.foldr (fun e r => gap e.1 (e.2 :: r)) (gap last [])
def pool (es : List (Nat × CpInfo)) (last : Nat) : Array CpInfo := ⟨poolList es last⟩
def fileOf (pool : Array CpInfo) (this : Nat) (attrs : Array Attribute := #[]) (ms : Array MethodInfo := #[]) (fl : Nat := 33) (sup : Nat := 0) (ifs : Array Nat := #[]) (fds : Array FieldInfo := #[]) : ClassFile where
  minorVersion := 0
  majorVersion := 65
  constantPool := pool
  accessFlags := fl
  thisClass := this
  superClass := sup
  interfaces := ifs
  fields := fds
  methods := ms
  attributes := attrs
def plain (name : String) (sup : Option ClassId) : Class where
  name := name
  kind := .ordinary
  loader := none
  accessFlags := 33
  super := sup
  interfaces := #[]
  cf := none
  fields := #[]
  methods := #[]
  instanceTypes := #[]
  staticTypes := #[]
  resolved := #[]
  callSites := []
  init := .initialized
  statics := none
  mirror := none

def pool0 : Array CpInfo := pool [(5, u "<init>"), (0, u "()V"), (1, .class_ 10), (1, u "java/lang/Object")] 113

def k0m0 : Method := { name := "<init>", desc := "()V", sig := { parameters := [], returnType := none }, accessFlags := 1, code := none }
/-- java/lang/Object -/
def k0 : Class := { plain "java/lang/Object" none with
  accessFlags := 33
  interfaces := #[]
  cf := some (fileOf pool0 8 #[] #[{ accessFlags := 1, nameIndex := 5, descriptorIndex := 6, attributes := #[] }] 33 0 #[] #[])
  fields := #[]
  methods := #[k0m0]
  instanceTypes := #[]
  staticTypes := #[]
  resolved := Array.replicate 124 none
  statics := none }

def pool1 : Array CpInfo := pool [(2, .class_ 4), (1, u "java/lang/Object"), (0, u "<init>"), (0, u "()V"), (0, .integer 55295), (0, .integer 55296), (0, .integer 57343), (0, .integer 57344), (0, .integer 65533), (0, .integer 65534), (0, .integer 65535), (0, .integer 65536), (0, .integer 1114111), (0, .integer 1114112), (2, .integer 2147483648), (0, .integer 2147483647), (0, .methodref 22 23), (0, .class_ 24), (0, .nameAndType 25 26), (0, u "com/example/pcdata/pcdata/XmlChars"), (0, u "isChar"), (0, u "(I)Z"), (0, .methodref 28 29), (0, .class_ 30), (0, .nameAndType 31 26), (0, u "com/example/pcdata/pcdata/XmlCharsIsCharPinLaw"), (0, u "expected"), (2, u "law"), (0, u "(III)Z")] 5

def k1m0 : Method := { name := "<init>", desc := "()V", sig := { parameters := [], returnType := none }, accessFlags := 2, code := none }
def k1c1 : Code := { maxStack := 4, maxLocals := 5, code := code, exceptionTable := #[], attributes := #[] }
def k1m1 : Method := { name := "law", desc := "(III)Z", sig := { parameters := [.int, .int, .int], returnType := some .boolean }, accessFlags := 9, code := some k1c1 }
def k1c2 : Code := { maxStack := 2, maxLocals := 5, code := method_3_code, exceptionTable := #[], attributes := #[] }
def k1m2 : Method := { name := "expected", desc := "(I)Z", sig := { parameters := [.int], returnType := some .boolean }, accessFlags := 10, code := some k1c2 }
/-- com/example/pcdata/pcdata/XmlCharsIsCharPinLaw -/
def k1 : Class := { plain "com/example/pcdata/pcdata/XmlCharsIsCharPinLaw" (some 0) with
  accessFlags := 49
  interfaces := #[]
  cf := some (fileOf pool1 28 #[] #[{ accessFlags := 2, nameIndex := 5, descriptorIndex := 6, attributes := #[] }, { accessFlags := 9, nameIndex := 34, descriptorIndex := 35, attributes := #[] }, { accessFlags := 10, nameIndex := 31, descriptorIndex := 26, attributes := #[] }] 49 2 #[] #[])
  fields := #[]
  methods := #[k1m0, k1m1, k1m2]
  instanceTypes := #[]
  staticTypes := #[]
  resolved := Array.replicate 41 none
  statics := none }

def pool2 : Array CpInfo := pool [(2, .class_ 4), (1, u "java/lang/Object"), (0, u "<init>"), (0, u "()V"), (0, .integer 55295), (0, .integer 57344), (0, .integer 65533), (0, .integer 65536), (0, .integer 1114111), (0, .class_ 13), (0, u "com/example/pcdata/pcdata/XmlChars"), (4, u "ASCII"), (0, u "[B"), (3, u "(I)Z"), (56, u "NAME_START"), (0, u "B"), (2, u "NAME"), (1, u "SPACES"), (0, u "J"), (2, u "isChar")] 7

def k2m0 : Method := { name := "<init>", desc := "()V", sig := { parameters := [], returnType := none }, accessFlags := 2, code := none }
def k2c1 : Code := { maxStack := 2, maxLocals := 1, code := prog_58_method_2_code, exceptionTable := #[], attributes := #[] }
def k2m1 : Method := { name := "isChar", desc := "(I)Z", sig := { parameters := [.int], returnType := some .boolean }, accessFlags := 9, code := some k2c1 }
/-- com/example/pcdata/pcdata/XmlChars -/
def k2 : Class := { plain "com/example/pcdata/pcdata/XmlChars" (some 0) with
  accessFlags := 49
  interfaces := #[]
  cf := some (fileOf pool2 12 #[] #[{ accessFlags := 2, nameIndex := 5, descriptorIndex := 6, attributes := #[] }, { accessFlags := 9, nameIndex := 90, descriptorIndex := 23, attributes := #[] }] 49 2 #[] #[{ accessFlags := 26, nameIndex := 80, descriptorIndex := 81, attributes := #[] }, { accessFlags := 26, nameIndex := 84, descriptorIndex := 81, attributes := #[] }, { accessFlags := 26, nameIndex := 86, descriptorIndex := 87, attributes := #[] }, { accessFlags := 26, nameIndex := 18, descriptorIndex := 19, attributes := #[] }])
  fields := #[{ name := "NAME_START", type := .byte, accessFlags := 26, slot := 0, constantValue := 0 }, { name := "NAME", type := .byte, accessFlags := 26, slot := 1, constantValue := 0 }, { name := "SPACES", type := .long, accessFlags := 26, slot := 2, constantValue := 0 }, { name := "ASCII", type := (.array .byte), accessFlags := 26, slot := 3, constantValue := 0 }]
  methods := #[k2m0, k2m1]
  instanceTypes := #[]
  staticTypes := #[.byte, .byte, .long, (.array .byte)]
  resolved := Array.replicate 98 none
  statics := none }

def pool3 : Array CpInfo := pool [(1, u "java/lang/Cloneable"), (0, .class_ 1), (0, u "java/lang/Object"), (0, .class_ 3)] 3

/-- java/lang/Cloneable -/
def k3 : Class := { plain "java/lang/Cloneable" (some 0) with
  accessFlags := 1537
  interfaces := #[]
  cf := some (fileOf pool3 2 #[] #[] 1537 4 #[] #[])
  fields := #[]
  methods := #[]
  instanceTypes := #[]
  staticTypes := #[]
  resolved := Array.replicate 8 none
  statics := none }

def pool4 : Array CpInfo := pool [(1, u "java/io/Serializable"), (0, .class_ 1), (0, u "java/lang/Object"), (0, .class_ 3)] 3

/-- java/io/Serializable -/
def k4 : Class := { plain "java/io/Serializable" (some 0) with
  accessFlags := 1537
  interfaces := #[]
  cf := some (fileOf pool4 2 #[] #[] 1537 4 #[] #[])
  fields := #[]
  methods := #[]
  instanceTypes := #[]
  staticTypes := #[]
  resolved := Array.replicate 8 none
  statics := none }

/-- the primitive byte -/
def k5 : Class := { plain "byte" none with kind := .primitive 'B', accessFlags := 0x411 }
/-- [B -/
def k6 : Class := { plain "[B" (some 0) with kind := .array 5 .byte, interfaces := #[3, 4], accessFlags := 1041 }

/-- the primitive int -/
def k7 : Class := { plain "int" none with kind := .primitive 'I', accessFlags := 0x411 }
/-- [I -/
def k8 : Class := { plain "[I" (some 0) with kind := .array 7 .int, interfaces := #[3, 4], accessFlags := 1041 }

def heap : Heap := #[]
def classes : Array Class := #[k0, k1, k2, k3, k4, k5, k6, k7, k8]
def interned : List (Array UInt16 × Addr) := []
def slotsUsed : Nat := 0
def theMethod : MethodId := ⟨1, 1⟩
def args0 : Array Value := #[.int 5, .int 7, .int 9]
def aboutOver (below : List Frame) : State where
  vm := { classes := classes, interned := interned.toArray }
  heap := heap
  slotsUsed := slotsUsed
  threads := #[{ frames := .invoking theMethod args0 :: below }]
def below0 : List Frame := [.native { method := ⟨0, 0⟩, args := #[] }]
def about1 : State := aboutOver below0
def p0 : Program := .bare "" "" ""
def e0 : Env := launch0.env 0 0 0
theorem w_frames : about1.frames = Frame.invoking theMethod args0 :: below0 := rfl
set_option maxRecDepth 65536 in
theorem w_args : argsFit about1.vm theMethod args0 = true := by decide +kernel
set_option maxRecDepth 65536 in
theorem w_heap : heapFits about1 = true := by decide +kernel
set_option maxRecDepth 65536 in
theorem w_runnable : about1.curStatus? = some .runnable := by decide +kernel
set_option maxRecDepth 65536 in
theorem w_alone : about1.alone = true := by decide +kernel
set_option maxRecDepth 65536 in
theorem w_named : about1.methodNamed? x = some theMethod := by decide +kernel
set_option maxRecDepth 65536 in
theorem w_hears : about1.hears theMethod below0 = true := by decide +kernel
set_option maxRecDepth 65536 in
theorem w_ripe : about1.ripe theMethod args0 below0 = true := by decide +kernel
theorem w_running : about1.status = .running := rfl
set_option maxRecDepth 65536 in
theorem w_room : about1.hasRoom e0.platform room_1 = true :=
  launch0.hasRoom_least _ room_1 (by decide +kernel) (by decide +kernel) (by decide +kernel) (by decide +kernel) (by decide +kernel) (by decide +kernel)
theorem allAtoms_all (ts : List Jvm.Cond) (a : Array Jvm.Value) (st : Jvm.State) : (allAtoms ts).before a st = ts.all (fun c => c.before a st) := by
  induction ts with
  | nil => rfl
  | cons c t ih =>
    show (Jvm.Cond.and c (allAtoms t)).before a st = _
    rw [Jvm.Cond.before_and, ih, List.all_cons]
def words1 : List Jvm.Cond := Jvm.Cond.code x code maxLocals ret :: tables_1
/-- a 'code' word, met by the world's own term for the bytes: nothing is compared byte by byte -/
theorem code_word {y : MethodName} {bytes : ByteArray} {mx : Nat} {rt : Option FieldType} {a : Array Value} {s : State} {m : MethodId} {meth : Method} {c : Code} (h1 : s.methodNamed? y = some m) (h2 : s.vm.method? m = some meth) (h3 : meth.code = some c) (h4 : c.code = bytes)
    (h5 : (c.maxLocals == mx && c.exceptionTable.isEmpty && decide (c.maxStack ≤ mostOperands) && decide (meth.sig.returnType = rt) && !meth.locks && decide (parseMethodDescriptor y.desc = some meth.sig)) = true) : (Jvm.Cond.code y bytes mx rt).before a s = true := by
  simp only [Bool.and_eq_true, beq_iff_eq, Bool.not_eq_true', decide_eq_true_eq] at h5
  obtain ⟨⟨⟨⟨⟨g1, g2⟩, g3⟩, g4⟩, g5⟩, g6⟩ := h5
  simp [Cond.before, Cond.holds, Cond.value, h1, h2, h3, h4, g1, g2, g3, g4, g5, g6]
def isCode : Jvm.Cond → Bool
  | .code _ _ _ _ => true
  | _ => false
theorem all_split {L : List Jvm.Cond} {P : Jvm.Cond → Bool} (h1 : L.all (fun c => isCode c || P c) = true) (h2 : ∀ c ∈ L.filter isCode, P c = true) : L.all P = true := by
  refine List.all_eq_true.mpr fun c hc => ?_
  have h := List.all_eq_true.mp h1 c hc
  rcases Bool.eq_false_or_eq_true (isCode c) with hi | hi
  · exact h2 c (List.mem_filter.mpr ⟨hc, hi⟩)
  · simpa [hi] using h
set_option maxRecDepth 65536 in
theorem w_c0 : (Jvm.Cond.code x code maxLocals ret).before args0 about1 = true := code_word (m := ⟨1, 1⟩) (meth := k1m1) (c := k1c1) (by decide +kernel) rfl rfl rfl (by decide +kernel)
set_option maxRecDepth 65536 in
theorem w_c1 : (Jvm.Cond.code ({ cls := "com/example/pcdata/pcdata/XmlChars", name := "isChar", desc := "(I)Z" } : Jvm.MethodName) prog_58_method_2_code (1 : Nat) (Option.some Jvm.ClassFile.FieldType.boolean)).before args0 about1 = true := code_word (m := ⟨2, 1⟩) (meth := k2m1) (c := k2c1) (by decide +kernel) rfl rfl rfl (by decide +kernel)
set_option maxRecDepth 65536 in
theorem w_c2 : (Jvm.Cond.code ({ cls := "com/example/pcdata/pcdata/XmlCharsIsCharPinLaw", name := "expected", desc := "(I)Z" } : Jvm.MethodName) method_3_code (5 : Nat) (Option.some Jvm.ClassFile.FieldType.boolean)).before args0 about1 = true := code_word (m := ⟨1, 2⟩) (meth := k1m2) (c := k1c2) (by decide +kernel) rfl rfl rfl (by decide +kernel)
def codes1 : List Jvm.Cond := [Jvm.Cond.code x code maxLocals ret, Jvm.Cond.code ({ cls := "com/example/pcdata/pcdata/XmlChars", name := "isChar", desc := "(I)Z" } : Jvm.MethodName) prog_58_method_2_code (1 : Nat) (Option.some Jvm.ClassFile.FieldType.boolean), Jvm.Cond.code ({ cls := "com/example/pcdata/pcdata/XmlCharsIsCharPinLaw", name := "expected", desc := "(I)Z" } : Jvm.MethodName) method_3_code (5 : Nat) (Option.some Jvm.ClassFile.FieldType.boolean)]
set_option maxRecDepth 65536 in
theorem codes_eq : words1.filter isCode = codes1 := rfl
theorem w_codes : ∀ c ∈ words1.filter isCode, c.before args0 about1 = true := by
  rw [codes_eq]
  intro c hc
  simp only [codes1, List.mem_cons, List.not_mem_nil, or_false] at hc
  rcases hc with rfl | rfl | rfl
  · exact w_c0
  · exact w_c1
  · exact w_c2
set_option maxRecDepth 65536 in
theorem w_t1 : (words1.take 24).all (fun c => isCode c || c.before args0 about1) = true := by decide +kernel
set_option maxRecDepth 65536 in
theorem w_t2 : (words1.drop 24).all (fun c => isCode c || c.before args0 about1) = true := by decide +kernel
theorem w_tables : (allAtoms (Jvm.Cond.code x code maxLocals ret :: tables_1)).before args0 about1 = true := by
  rw [allAtoms_all]
  show words1.all (fun c => c.before args0 about1) = true
  refine all_split ?_ w_codes
  rw [← List.take_append_drop 24 words1, List.all_append, w_t1, w_t2]
  rfl
set_option maxRecDepth 65536 in
theorem w_case : (Jvm.Cond.and given_1 narrow_1).before args0 about1 = true := by decide +kernel
theorem w_applies : (headSpec (Jvm.Cond.code x code maxLocals ret :: tables_1) room_1).applies x e0.platform about1 = true :=
  (Spec.applies_iff w_frames).mpr ⟨w_running, w_runnable, w_alone, w_named, w_hears, w_ripe, w_room, w_tables⟩
theorem atStart : AtStart classFile x code maxLocals ret World_1 tables_1 room_1 Calls_1 rest_1 Pre_1 launch0 p0 e0 about1 theMethod args0 below0 :=
  ⟨lists_1, trivial, launch0.admits_env _ _ _, launch0.least_env, fairChoices_fair.cas, fairChoices_fair.clock, w_frames, w_args, w_heap, w_applies, trivial, trivial, w_case⟩
end start1
theorem witness_1 : WitnessClaimed_1 := ⟨start1.p0, start1.e0, start1.about1, start1.theMethod, start1.args0, start1.below0, start1.atStart⟩
end Jvm.Pilot.@@N@@
