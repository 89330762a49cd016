import JvmDerived
import JvmDerived.Pilot.@@N@@Statement
import JvmDerived.Pilot.@@N@@Code
set_option linter.unusedVariables false
set_option linter.unusedSimpArgs false
@@BLOCK:NumsL.lean.txt@@
@@BLOCK:Masks.lean.txt@@
namespace Jvm.Wk
open Sem ClassFile Op Lib Jvm.Stand Jvm.Free Jvm.LawKit Jvm.RoadKit
def Fin_ (p : Program) (e : Env) (s : State) (below : List Frame) (R : Room) (n0 : Nat) (P : Option Value → Heap → Prop) (S0 : State) : Prop :=
  ∃ s₂ o, Steps p.tables e below S0 s₂ ∧ s₂.status = .running ∧ Ended s₂ below o ∧ ∃ v L, o = .returned v ∧ (Fr n0 L ∧ P v s₂.heap) ∧ FrameEnd s o s₂ L R.cells R.slots
def Fa (Z : State) (y : MethodName) (bytes : ByteArray) (maxL : Nat) (ret : Option FieldType) (p : Program) (s : State) (m : MethodId) (meth : Method) (c : Code) : Prop :=
  p.tables.exec = Jvm.exec ∧ c.code = bytes ∧ c.maxLocals = maxL ∧ Z.Warmed39 s.vm ∧ s.vm.findClass y.cls = some m.cls ∧ meth.name = y.name ∧ meth.sig.returnType = ret ∧ meth.locks = false
/-- a walk that has come to pc with these locals and this operand stack over the heap h; G: what it is walked for -/
def Wk (l : Launch) (Z : State) (R : Room) (y : MethodName) (bytes : ByteArray) (maxL : Nat) (ret : Option FieldType) (n0 : Nat) (Xt : Program → Env → List Frame → State → Prop) (s : State) (h : Heap) (cells slots pc : Nat) (Ls : Array Slot) (st : List Value) : Prop :=
  ∃ (p : Program) (e : Env) (m : MethodId) (args : Array Value) (below : List Frame) (meth : Method) (c : Code) (S0 T : State) (locs : List Loc), Fa Z y bytes maxL ret p s m meth c ∧
    Stand p l e R s m args below meth c T locs cells slots ∧ T.heap = h ∧ Fr n0 locs ∧ (∀ t, Steps p.tables e below (T.setTop (mkF m pc Ls st)) t → Steps p.tables e below S0 t) ∧ Xt p e below S0
/-- how a walk of a contract ends: G is what it is walked for -/
abbrev Ex (s : State) (R : Room) (n0 : Nat) (P : Option Value → Heap → Prop) (G : Prop) : Program → Env → List Frame → State → Prop := fun p e below S0 => Fin_ p e s below R n0 P S0 → G
/-- a callee's contract: entered with the arguments as' over the heap h0 it returns; P says what and over which heap -/
def Con (l : Launch) (Z : State) (y : MethodName) (bytes : ByteArray) (maxL : Nat) (ret : Option FieldType) (rm : Room) (as' : Array Value) (h0 : Heap) (n0 : Nat) (P : Option Value → Heap → Prop) : Prop :=
  ∀ ws : List Jvm.Cond, MetFree l y (head1 (Jvm.Cond.code y bytes maxL ret :: ws) rm) (fun a U => a = as' ∧ Z.Warmed39 U.vm ∧ U.heap = h0) (fun _ _ _ _ _ => True) (fun _ U o U' => ∃ v L, o = .returned v ∧ (Fr n0 L ∧ P v U'.heap) ∧ FrameEnd U o U' L rm.cells rm.slots)
/-- an array of the component type ty that holds vs -/
def AV (Z : State) (h : Heap) (a : Addr) (ty : FieldType) (vs : List Value) : Prop := vs.length < 2 ^ 31 ∧ ∃ c : Cell, Arr Z h a c ty ∧ c.slots = vs.toArray
section L
variable {l : Launch} {Z : State} {R : Room} {y : MethodName} {bytes : ByteArray} {maxL : Nat} {ret : Option FieldType} {n0 : Nat} {P : Option Value → Heap → Prop} {G : Prop} {Xt : Program → Env → List Frame → State → Prop} {s : State} {h h' : Heap} {cells slots pc : Nat} {Ls : Array Slot} {st : List Value} {a0 : Array Value} {a : Addr} {ty : FieldType} {vs : List Value} {ws : List Addr}
theorem AV.lt (A : AV Z h a ty vs) : a < h.size := by obtain ⟨-, c, A, -⟩ := A; exact A.lt
theorem AV.keep (A : AV Z h a ty vs) (K : Keep h h' ws) (q : a ∉ ws) : AV Z h' a ty vs := by obtain ⟨n, c, A, r⟩ := A; exact ⟨n, c, ⟨K.2.1 a c A.1 q, A.2⟩, r⟩
theorem nS {x y : Nat} {L : List Addr} (q : ¬ x = y) (r : (x : Addr) ∉ L) : (x : Addr) ∉ (y : Addr) :: L := ninS q r
theorem Keep.of_ext (E : Ext h h') : Keep h h' [] := (Keep.refl h []).ext E
theorem mk {p : Program} {e : Env} {m : MethodId} {args : Array Value} {below : List Frame} {meth : Method} {c : Code} {S0 T : State} {locs : List Loc} (F : Fa Z y bytes maxL ret p s m meth c)
    (X : Stand p l e R s m args below meth c T locs cells slots) (eT : T.heap = h) (N : Fr n0 locs) (r : ∀ t, Steps p.tables e below (T.setTop (mkF m pc Ls st)) t → Steps p.tables e below S0 t) (ex : Xt p e below S0) : Wk l Z R y bytes maxL ret n0 Xt s h cells slots pc Ls st :=
  Exists.intro p ⟨e, m, args, below, meth, c, S0, T, locs, F, X, eT, N, r, ex⟩
theorem Con.of {as' : Array Value} (hpn : plainFor y = true) (hef : ∀ m, entryFrame m as' maxL = mkF m 0 Ls []) (body : ∀ (G : Prop) (s : State), Wk l Z R y bytes maxL ret n0 (Ex s R n0 P G) s h 0 0 0 Ls [] → G) : Con l Z y bytes maxL ret R as' h n0 P := by
  intro ws
  refine MetFree.of_bodySF hpn hisR ?_
  intro p e s m args below meth c s₁ Bd hml0 hP hK
  obtain ⟨rfl, hZ, hh⟩ := hP
  refine body _ s ?_
  have X0 : Stand p l e R s m args below meth c s₁ [] 0 0 := Stand.of_body Bd
  exact mk (S0 := s₁.setTop (entryFrame m args maxL)) ⟨Bd.exec, Bd.bytes, hml0, hZ, findClass_of_methodNamed Bd.named, (name_of_methodNamed Bd.named Bd.method).1, Bd.returns, Bd.notSynchronized⟩ X0 (by rw [← hh, Bd.state]; rfl) (Fr.nil n0) (fun t k => castTop (hef m) k) (fun q => q)
theorem Wk.pure {pc' : Nat} {Ls' : Array Slot} {st' : List Value} (k : Wk l Z R y bytes maxL ret n0 Xt s h cells slots pc Ls st) (f : ∀ {tb : Tables} [Ours tb] {e : Env} {below : List Frame} {T t : State} {m : MethodId} {c : Code}, At T m c below → tb.exec = Jvm.exec → c.code = bytes → Steps tb e below (T.setTop (mkF m pc' Ls' st')) t → Steps tb e below (T.setTop (mkF m pc Ls st)) t) : Wk l Z R y bytes maxL ret n0 Xt s h cells slots pc' Ls' st' := by
  obtain ⟨p, e, m, args, below, meth, c, S0, T, locs, F, X, eT, N, r, ex⟩ := k
  exact mk F X eT N (fun t q => r t (f X.here F.1 F.2.1 q)) ex
/-- more cells and slots booked than were made -/
theorem Wk.more {cells' slots' : Nat} (k : Wk l Z R y bytes maxL ret n0 Xt s h cells slots pc Ls st) (h1 : cells ≤ cells') (h2 : slots ≤ slots') : Wk l Z R y bytes maxL ret n0 Xt s h cells' slots' pc Ls st := by
  obtain ⟨p, e, m, args, below, meth, c, S0, T, locs, F, X, eT, N, r, ex⟩ := k
  exact mk F { X with same := X.same.mono h1 h2 } eT N r ex
theorem Wk.aloadN {j : Fin 4} {v : Value} (k : Wk l Z R y bytes maxL ret n0 Xt s h cells slots pc Ls st) (hd : decode bytes pc = .ok (.aload_n j, 1)) (hl : Ls[j.val]? = some (.val v)) (hv : v.isRef = true) : Wk l Z R y bytes maxL ret n0 Xt s h cells slots (pc + 1) Ls (v :: st) := k.pure fun a hx hb' q => XS.aloadN a hx rfl (hb hb' hd) hl hv q
theorem Wk.aload {j : Nat} {v : Value} (k : Wk l Z R y bytes maxL ret n0 Xt s h cells slots pc Ls st) (hd : decode bytes pc = .ok (.aload j, 2)) (hl : Ls[j]? = some (.val v)) (hv : v.isRef = true) : Wk l Z R y bytes maxL ret n0 Xt s h cells slots (pc + 2) Ls (v :: st) := k.pure fun a hx hb' q => XS.aload a hx rfl (hb hb' hd) hl hv q
theorem Wk.iloadN {j : Fin 4} {v : Int32} (k : Wk l Z R y bytes maxL ret n0 Xt s h cells slots pc Ls st) (hd : decode bytes pc = .ok (.iload_n j, 1)) (hl : Ls[j.val]? = some (.val (.int v))) : Wk l Z R y bytes maxL ret n0 Xt s h cells slots (pc + 1) Ls (.int v :: st) := k.pure fun a hx hb' q => XS.iloadN a hx rfl (hb hb' hd) hl q
theorem Wk.iload {j : Nat} {v : Int32} (k : Wk l Z R y bytes maxL ret n0 Xt s h cells slots pc Ls st) (hd : decode bytes pc = .ok (.iload j, 2)) (hl : Ls[j]? = some (.val (.int v))) : Wk l Z R y bytes maxL ret n0 Xt s h cells slots (pc + 2) Ls (.int v :: st) := k.pure fun a hx hb' q => XS.iload a hx rfl (hb hb' hd) hl q
theorem Wk.lloadN {j : Fin 4} {v : Int64} (k : Wk l Z R y bytes maxL ret n0 Xt s h cells slots pc Ls st) (hd : decode bytes pc = .ok (.lload_n j, 1)) (hl : Ls[j.val]? = some (.val (.long v))) : Wk l Z R y bytes maxL ret n0 Xt s h cells slots (pc + 1) Ls (.long v :: st) := k.pure fun a hx hb' q => XT.lloadN a hx rfl (hb hb' hd) hl q
theorem Wk.lload {j : Nat} {v : Int64} (k : Wk l Z R y bytes maxL ret n0 Xt s h cells slots pc Ls st) (hd : decode bytes pc = .ok (.lload j, 2)) (hl : Ls[j]? = some (.val (.long v))) : Wk l Z R y bytes maxL ret n0 Xt s h cells slots (pc + 2) Ls (.long v :: st) := k.pure fun a hx hb' q => XT.lload a hx rfl (hb hb' hd) hl q
theorem Wk.istoreN {j : Fin 4} {v : Int32} {Ls' : Array Slot} (k : Wk l Z R y bytes maxL ret n0 Xt s h cells slots pc Ls (.int v :: st)) (hd : decode bytes pc = .ok (.istore_n j, 1)) (hl : storeLocals Ls j.val (.int v) = some Ls') : Wk l Z R y bytes maxL ret n0 Xt s h cells slots (pc + 1) Ls' st := k.pure fun a hx hb' q => XS.istoreN a hx rfl (hb hb' hd) rfl hl q
theorem Wk.istore {j : Nat} {v : Int32} {Ls' : Array Slot} (k : Wk l Z R y bytes maxL ret n0 Xt s h cells slots pc Ls (.int v :: st)) (hd : decode bytes pc = .ok (.istore j, 2)) (hl : storeLocals Ls j (.int v) = some Ls') : Wk l Z R y bytes maxL ret n0 Xt s h cells slots (pc + 2) Ls' st := k.pure fun a hx hb' q => XS.istore a hx rfl (hb hb' hd) rfl hl q
theorem Wk.lstoreN {j : Fin 4} {v : Int64} {Ls' : Array Slot} (k : Wk l Z R y bytes maxL ret n0 Xt s h cells slots pc Ls (.long v :: st)) (hd : decode bytes pc = .ok (.lstore_n j, 1)) (hl : storeLocals Ls j.val (.long v) = some Ls') : Wk l Z R y bytes maxL ret n0 Xt s h cells slots (pc + 1) Ls' st := k.pure fun a hx hb' q => XT.lstoreN a hx rfl (hb hb' hd) rfl hl q
theorem Wk.lstore {j : Nat} {v : Int64} {Ls' : Array Slot} (k : Wk l Z R y bytes maxL ret n0 Xt s h cells slots pc Ls (.long v :: st)) (hd : decode bytes pc = .ok (.lstore j, 2)) (hl : storeLocals Ls j (.long v) = some Ls') : Wk l Z R y bytes maxL ret n0 Xt s h cells slots (pc + 2) Ls' st := k.pure fun a hx hb' q => XT.lstore a hx rfl (hb hb' hd) rfl hl q
theorem Wk.astoreN {j : Fin 4} {v : Value} {Ls' : Array Slot} (k : Wk l Z R y bytes maxL ret n0 Xt s h cells slots pc Ls (v :: st)) (hd : decode bytes pc = .ok (.astore_n j, 1)) (hv : v.isRef = true) (hl : storeLocals Ls j.val v = some Ls') : Wk l Z R y bytes maxL ret n0 Xt s h cells slots (pc + 1) Ls' st := k.pure fun a hx hb' q => XS.astoreN a hx rfl (hb hb' hd) rfl hv hl q
theorem Wk.astore {j : Nat} {v : Value} {Ls' : Array Slot} (k : Wk l Z R y bytes maxL ret n0 Xt s h cells slots pc Ls (v :: st)) (hd : decode bytes pc = .ok (.astore j, 2)) (hv : v.isRef = true) (hl : storeLocals Ls j v = some Ls') : Wk l Z R y bytes maxL ret n0 Xt s h cells slots (pc + 2) Ls' st := k.pure fun a hx hb' q => XS.astore a hx rfl (hb hb' hd) rfl hv hl q
theorem Wk.iconst {i : Int} (k : Wk l Z R y bytes maxL ret n0 Xt s h cells slots pc Ls st) (v : Int32) (hd : decode bytes pc = .ok (.iconst i, 1)) (hv : Int32.ofInt i = v) : Wk l Z R y bytes maxL ret n0 Xt s h cells slots (pc + 1) Ls (.int v :: st) := k.pure fun a hx hb' q => XT.iconstV a hx rfl v (hb hb' hd) hv q
theorem Wk.bipush {i : Int} (k : Wk l Z R y bytes maxL ret n0 Xt s h cells slots pc Ls st) (v : Int32) (hd : decode bytes pc = .ok (.bipush i, 2)) (hv : (Int8.ofInt i).toInt32 = v) : Wk l Z R y bytes maxL ret n0 Xt s h cells slots (pc + 2) Ls (.int v :: st) := k.pure fun a hx hb' q => XT.bipushV a hx rfl v (hb hb' hd) hv q
theorem Wk.sipush {i : Int} (k : Wk l Z R y bytes maxL ret n0 Xt s h cells slots pc Ls st) (v : Int32) (hd : decode bytes pc = .ok (.sipush i, 3)) (hv : (Int16.ofInt i).toInt32 = v) : Wk l Z R y bytes maxL ret n0 Xt s h cells slots (pc + 3) Ls (.int v :: st) := k.pure fun a hx hb' q => XT.sipushV a hx rfl v (hb hb' hd) hv q
theorem Wk.lconst {i : Fin 2} (k : Wk l Z R y bytes maxL ret n0 Xt s h cells slots pc Ls st) (v : Int64) (hd : decode bytes pc = .ok (.lconst i, 1)) (hv : Int64.ofNat i = v) : Wk l Z R y bytes maxL ret n0 Xt s h cells slots (pc + 1) Ls (.long v :: st) := k.pure fun a hx hb' q => XT.lconstV a hx rfl v (hb hb' hd) hv q
theorem Wk.anull (k : Wk l Z R y bytes maxL ret n0 Xt s h cells slots pc Ls st) (hd : decode bytes pc = .ok (.aconst_null, 1)) : Wk l Z R y bytes maxL ret n0 Xt s h cells slots (pc + 1) Ls (.null :: st) := k.pure fun a hx hb' q => XS.aconstNull a hx rfl (hb hb' hd) q
theorem Wk.iadd {x z : Int32} (k : Wk l Z R y bytes maxL ret n0 Xt s h cells slots pc Ls (.int z :: .int x :: st)) (hd : decode bytes pc = .ok (.iadd, 1)) : Wk l Z R y bytes maxL ret n0 Xt s h cells slots (pc + 1) Ls (.int (x + z) :: st) := k.pure fun a hx hb' q => XS.iadd a hx rfl (hb hb' hd) rfl q
theorem Wk.isub {x z : Int32} (k : Wk l Z R y bytes maxL ret n0 Xt s h cells slots pc Ls (.int z :: .int x :: st)) (hd : decode bytes pc = .ok (.isub, 1)) : Wk l Z R y bytes maxL ret n0 Xt s h cells slots (pc + 1) Ls (.int (x - z) :: st) := k.pure fun a hx hb' q => XS.isub a hx rfl (hb hb' hd) rfl q
theorem Wk.imul {x z : Int32} (k : Wk l Z R y bytes maxL ret n0 Xt s h cells slots pc Ls (.int z :: .int x :: st)) (hd : decode bytes pc = .ok (.imul, 1)) : Wk l Z R y bytes maxL ret n0 Xt s h cells slots (pc + 1) Ls (.int (x * z) :: st) := k.pure fun a hx hb' q => XS.imul a hx rfl (hb hb' hd) rfl q
theorem Wk.iand {x z : Int32} (k : Wk l Z R y bytes maxL ret n0 Xt s h cells slots pc Ls (.int z :: .int x :: st)) (hd : decode bytes pc = .ok (.iand, 1)) : Wk l Z R y bytes maxL ret n0 Xt s h cells slots (pc + 1) Ls (.int (x &&& z) :: st) := k.pure fun a hx hb' q => XS.iand a hx rfl (hb hb' hd) rfl q
theorem Wk.ior {x z : Int32} (k : Wk l Z R y bytes maxL ret n0 Xt s h cells slots pc Ls (.int z :: .int x :: st)) (hd : decode bytes pc = .ok (.ior, 1)) : Wk l Z R y bytes maxL ret n0 Xt s h cells slots (pc + 1) Ls (.int (x ||| z) :: st) := k.pure fun a hx hb' q => XT.ior a hx rfl (hb hb' hd) rfl q
theorem Wk.ixor {x z : Int32} (k : Wk l Z R y bytes maxL ret n0 Xt s h cells slots pc Ls (.int z :: .int x :: st)) (hd : decode bytes pc = .ok (.ixor, 1)) : Wk l Z R y bytes maxL ret n0 Xt s h cells slots (pc + 1) Ls (.int (x ^^^ z) :: st) := k.pure fun a hx hb' q => XT.ixor a hx rfl (hb hb' hd) rfl q
theorem Wk.iushr {x z : Int32} (k : Wk l Z R y bytes maxL ret n0 Xt s h cells slots pc Ls (.int z :: .int x :: st)) (hd : decode bytes pc = .ok (.iushr, 1)) : Wk l Z R y bytes maxL ret n0 Xt s h cells slots (pc + 1) Ls (.int (XT.ushr x z) :: st) := k.pure fun a hx hb' q => XT.iushr a hx rfl (hb hb' hd) rfl q
theorem Wk.ladd {x z : Int64} (k : Wk l Z R y bytes maxL ret n0 Xt s h cells slots pc Ls (.long z :: .long x :: st)) (hd : decode bytes pc = .ok (.ladd, 1)) : Wk l Z R y bytes maxL ret n0 Xt s h cells slots (pc + 1) Ls (.long (x + z) :: st) := k.pure fun a hx hb' q => XT.ladd a hx rfl (hb hb' hd) rfl q
theorem Wk.lsub {x z : Int64} (k : Wk l Z R y bytes maxL ret n0 Xt s h cells slots pc Ls (.long z :: .long x :: st)) (hd : decode bytes pc = .ok (.lsub, 1)) : Wk l Z R y bytes maxL ret n0 Xt s h cells slots (pc + 1) Ls (.long (x - z) :: st) := k.pure fun a hx hb' q => XT.lsub a hx rfl (hb hb' hd) rfl q
theorem Wk.lmul {x z : Int64} (k : Wk l Z R y bytes maxL ret n0 Xt s h cells slots pc Ls (.long z :: .long x :: st)) (hd : decode bytes pc = .ok (.lmul, 1)) : Wk l Z R y bytes maxL ret n0 Xt s h cells slots (pc + 1) Ls (.long (x * z) :: st) := k.pure fun a hx hb' q => XT.lmul a hx rfl (hb hb' hd) rfl q
theorem Wk.land {x z : Int64} (k : Wk l Z R y bytes maxL ret n0 Xt s h cells slots pc Ls (.long z :: .long x :: st)) (hd : decode bytes pc = .ok (.land, 1)) : Wk l Z R y bytes maxL ret n0 Xt s h cells slots (pc + 1) Ls (.long (x &&& z) :: st) := k.pure fun a hx hb' q => XT.land a hx rfl (hb hb' hd) rfl q
theorem Wk.lor {x z : Int64} (k : Wk l Z R y bytes maxL ret n0 Xt s h cells slots pc Ls (.long z :: .long x :: st)) (hd : decode bytes pc = .ok (.lor, 1)) : Wk l Z R y bytes maxL ret n0 Xt s h cells slots (pc + 1) Ls (.long (x ||| z) :: st) := k.pure fun a hx hb' q => XT.lor a hx rfl (hb hb' hd) rfl q
theorem Wk.lxor {x z : Int64} (k : Wk l Z R y bytes maxL ret n0 Xt s h cells slots pc Ls (.long z :: .long x :: st)) (hd : decode bytes pc = .ok (.lxor, 1)) : Wk l Z R y bytes maxL ret n0 Xt s h cells slots (pc + 1) Ls (.long (x ^^^ z) :: st) := k.pure fun a hx hb' q => XT.lxor a hx rfl (hb hb' hd) rfl q
theorem Wk.lcmp {x z : Int64} (k : Wk l Z R y bytes maxL ret n0 Xt s h cells slots pc Ls (.long z :: .long x :: st)) (hd : decode bytes pc = .ok (.lcmp, 1)) : Wk l Z R y bytes maxL ret n0 Xt s h cells slots (pc + 1) Ls (.int (XT.cmpL x z) :: st) := k.pure fun a hx hb' q => XT.lcmp a hx rfl (hb hb' hd) rfl q
theorem Wk.lshl {x : Int64} {z : Int32} (k : Wk l Z R y bytes maxL ret n0 Xt s h cells slots pc Ls (.int z :: .long x :: st)) (hd : decode bytes pc = .ok (.lshl, 1)) : Wk l Z R y bytes maxL ret n0 Xt s h cells slots (pc + 1) Ls (.long (x <<< (z.toInt64 &&& 63)) :: st) := k.pure fun a hx hb' q => XT.lshl a hx rfl (hb hb' hd) rfl q
theorem Wk.lushr {x : Int64} {z : Int32} (k : Wk l Z R y bytes maxL ret n0 Xt s h cells slots pc Ls (.int z :: .long x :: st)) (hd : decode bytes pc = .ok (.lushr, 1)) : Wk l Z R y bytes maxL ret n0 Xt s h cells slots (pc + 1) Ls (.long (XT.ushrL x z) :: st) := k.pure fun a hx hb' q => XT.lushr a hx rfl (hb hb' hd) rfl q
theorem Wk.i2l {x : Int32} (k : Wk l Z R y bytes maxL ret n0 Xt s h cells slots pc Ls (.int x :: st)) (hd : decode bytes pc = .ok (.i2l, 1)) : Wk l Z R y bytes maxL ret n0 Xt s h cells slots (pc + 1) Ls (.long x.toInt64 :: st) := k.pure fun a hx hb' q => XT.i2l a hx rfl (hb hb' hd) rfl q
theorem Wk.l2i {x : Int64} (k : Wk l Z R y bytes maxL ret n0 Xt s h cells slots pc Ls (.long x :: st)) (hd : decode bytes pc = .ok (.l2i, 1)) : Wk l Z R y bytes maxL ret n0 Xt s h cells slots (pc + 1) Ls (.int x.toInt32 :: st) := k.pure fun a hx hb' q => XT.l2i a hx rfl (hb hb' hd) rfl q
theorem Wk.i2b {x : Int32} (k : Wk l Z R y bytes maxL ret n0 Xt s h cells slots pc Ls (.int x :: st)) (hd : decode bytes pc = .ok (.i2b, 1)) : Wk l Z R y bytes maxL ret n0 Xt s h cells slots (pc + 1) Ls (.int x.toInt8.toInt32 :: st) := k.pure fun a hx hb' q => XT.i2b a hx rfl (hb hb' hd) rfl q
theorem Wk.i2c {x : Int32} (k : Wk l Z R y bytes maxL ret n0 Xt s h cells slots pc Ls (.int x :: st)) (hd : decode bytes pc = .ok (.i2c, 1)) : Wk l Z R y bytes maxL ret n0 Xt s h cells slots (pc + 1) Ls (.int x.toUInt32.toUInt16.toUInt32.toInt32 :: st) := k.pure fun a hx hb' q => XT.i2c a hx rfl (hb hb' hd) rfl q
theorem Wk.dup {x : Value} (k : Wk l Z R y bytes maxL ret n0 Xt s h cells slots pc Ls (x :: st)) (hd : decode bytes pc = .ok (.dup, 1)) (hc : x.category = 1) : Wk l Z R y bytes maxL ret n0 Xt s h cells slots (pc + 1) Ls (x :: x :: st) := k.pure fun a hx hb' q => XS.dup a hx rfl (hb hb' hd) rfl hc q
theorem Wk.pop {x : Value} (k : Wk l Z R y bytes maxL ret n0 Xt s h cells slots pc Ls (x :: st)) (hd : decode bytes pc = .ok (.pop, 1)) (hc : x.category = 1) : Wk l Z R y bytes maxL ret n0 Xt s h cells slots (pc + 1) Ls st := k.pure fun a hx hb' q => XT.pop a hx rfl (hb hb' hd) rfl hc q
theorem Wk.iinc {j : Nat} {i : Int} {x : Int32} {Ls' : Array Slot} (k : Wk l Z R y bytes maxL ret n0 Xt s h cells slots pc Ls st) (v : Int32) (hd : decode bytes pc = .ok (.iinc j i, 3)) (hv : Int32.ofInt i = v) (hl : Ls[j]? = some (.val (.int x))) (hl' : storeLocals Ls j (.int (x + v)) = some Ls') : Wk l Z R y bytes maxL ret n0 Xt s h cells slots (pc + 3) Ls' st := k.pure fun a hx hb' q => XT.iincV a hx rfl v (hb hb' hd) hv hl hl' q
theorem Wk.goto {o : Int} {pc' : Nat} (k : Wk l Z R y bytes maxL ret n0 Xt s h cells slots pc Ls st) (hd : decode bytes pc = .ok (.goto o, 3)) (hp : 0 ≤ (pc : Int) + o ∧ ((pc : Int) + o).toNat = pc') : Wk l Z R y bytes maxL ret n0 Xt s h cells slots pc' Ls st := k.pure fun a hx hb' q => XS.goto a hx rfl (pc0 := pc) (pc' := pc') rfl (hb hb' hd) hp.1 hp.2 q
theorem Wk.ifT {x : Int32} {cd : ClassFile.Cond} {o : Int} {pc' : Nat} (k : Wk l Z R y bytes maxL ret n0 Xt s h cells slots pc Ls (.int x :: st)) (hd : decode bytes pc = .ok (.ifCond cd o, 3)) (hc : ifCond.holds cd x = true) (hp : 0 ≤ (pc : Int) + o ∧ ((pc : Int) + o).toNat = pc') : Wk l Z R y bytes maxL ret n0 Xt s h cells slots pc' Ls st := k.pure fun a hx hb' q => XS.ifYes a hx rfl (pc0 := pc) (pc' := pc') rfl (hb hb' hd) rfl hc hp.1 hp.2 q
theorem Wk.ifF {x : Int32} {cd : ClassFile.Cond} {o : Int} (k : Wk l Z R y bytes maxL ret n0 Xt s h cells slots pc Ls (.int x :: st)) (hd : decode bytes pc = .ok (.ifCond cd o, 3)) (hc : ifCond.holds cd x = false) : Wk l Z R y bytes maxL ret n0 Xt s h cells slots (pc + 3) Ls st := k.pure fun a hx hb' q => XS.ifNo a hx rfl (hb hb' hd) rfl hc q
theorem Wk.icT {x z : Int32} {cd : ClassFile.Cond} {o : Int} {pc' : Nat} (k : Wk l Z R y bytes maxL ret n0 Xt s h cells slots pc Ls (.int z :: .int x :: st)) (hd : decode bytes pc = .ok (.if_icmp cd o, 3)) (hc : if_icmp.holds cd x z = true) (hp : 0 ≤ (pc : Int) + o ∧ ((pc : Int) + o).toNat = pc') : Wk l Z R y bytes maxL ret n0 Xt s h cells slots pc' Ls st := k.pure fun a hx hb' q => XS.icmpYes a hx rfl (pc0 := pc) (pc' := pc') rfl (hb hb' hd) rfl hc hp.1 hp.2 q
theorem Wk.icF {x z : Int32} {cd : ClassFile.Cond} {o : Int} (k : Wk l Z R y bytes maxL ret n0 Xt s h cells slots pc Ls (.int z :: .int x :: st)) (hd : decode bytes pc = .ok (.if_icmp cd o, 3)) (hc : if_icmp.holds cd x z = false) : Wk l Z R y bytes maxL ret n0 Xt s h cells slots (pc + 3) Ls st := k.pure fun a hx hb' q => XS.icmpNo a hx rfl (hb hb' hd) rfl hc q
theorem Wk.acT {x z : Value} {cd : ClassFile.ACond} {o : Int} {pc' : Nat} (k : Wk l Z R y bytes maxL ret n0 Xt s h cells slots pc Ls (z :: x :: st)) (hd : decode bytes pc = .ok (.if_acmp cd o, 3)) (h1 : x.isRef = true) (h2 : z.isRef = true) (hc : XT.acmp cd x z = true) (hp : 0 ≤ (pc : Int) + o ∧ ((pc : Int) + o).toNat = pc') : Wk l Z R y bytes maxL ret n0 Xt s h cells slots pc' Ls st := k.pure fun a hx hb' q => XT.acmpYes a hx rfl (pc0 := pc) (pc' := pc') rfl (hb hb' hd) rfl h1 h2 hc hp.1 hp.2 q
theorem Wk.acF {x z : Value} {cd : ClassFile.ACond} {o : Int} (k : Wk l Z R y bytes maxL ret n0 Xt s h cells slots pc Ls (z :: x :: st)) (hd : decode bytes pc = .ok (.if_acmp cd o, 3)) (h1 : x.isRef = true) (h2 : z.isRef = true) (hc : XT.acmp cd x z = false) : Wk l Z R y bytes maxL ret n0 Xt s h cells slots (pc + 3) Ls st := k.pure fun a hx hb' q => XT.acmpNo a hx rfl (hb hb' hd) rfl h1 h2 hc q
theorem Wk.nnT {b : Addr} {o : Int} {pc' : Nat} (k : Wk l Z R y bytes maxL ret n0 Xt s h cells slots pc Ls (.ref b :: st)) (hd : decode bytes pc = .ok (.ifnonnull o, 3)) (hp : 0 ≤ (pc : Int) + o ∧ ((pc : Int) + o).toNat = pc') : Wk l Z R y bytes maxL ret n0 Xt s h cells slots pc' Ls st := k.pure fun a hx hb' q => XT.ifnonnullYes a hx rfl (pc0 := pc) (pc' := pc') rfl (hb hb' hd) rfl hp.1 hp.2 q
theorem Wk.nnF {o : Int} (k : Wk l Z R y bytes maxL ret n0 Xt s h cells slots pc Ls (.null :: st)) (hd : decode bytes pc = .ok (.ifnonnull o, 3)) : Wk l Z R y bytes maxL ret n0 Xt s h cells slots (pc + 3) Ls st := k.pure fun a hx hb' q => XT.ifnonnullNo a hx rfl (hb hb' hd) rfl q
theorem Wk.irem {x z : Int32} (k : Wk l Z R y bytes maxL ret n0 Xt s h cells slots pc Ls (.int z :: .int x :: st)) (hd : decode bytes pc = .ok (.irem, 1)) (hz : z ≠ 0) : Wk l Z R y bytes maxL ret n0 Xt s h cells slots (pc + 1) Ls (.int (x % z) :: st) := by
  obtain ⟨p, e, m, args, below, meth, c, S0, T, locs, F, X, eT, N, r, ex⟩ := k
  exact mk F X eT N (fun t q => r t (iremM X F.1 rfl (hb F.2.1 hd) rfl hz q)) ex
theorem Wk.ldc {i : Nat} {v : Int32} (k : Wk l Z R y bytes maxL ret n0 Xt s h cells slots pc Ls st) (w : (Jvm.Cond.constant y.cls i v).before a0 Z = true) (hd : decode bytes pc = .ok (.ldc i, 2)) : Wk l Z R y bytes maxL ret n0 Xt s h cells slots (pc + 2) Ls (.int v :: st) := by
  obtain ⟨p, e, m, args, below, meth, c, S0, T, locs, F, X, eT, N, r, ex⟩ := k
  exact mk F X eT N (fun t q => r t (X.ldcI F.1 F.2.2.2.2.1 (mvT F.2.2.2.1 w) rfl (hb F.2.1 hd) q)) ex
theorem Wk.ldc2 {i : Nat} {v : Int64} (k : Wk l Z R y bytes maxL ret n0 Xt s h cells slots pc Ls st) (w : (Jvm.Cond.constantLong y.cls i v).before a0 Z = true) (hd : decode bytes pc = .ok (.ldc2_w i, 3)) : Wk l Z R y bytes maxL ret n0 Xt s h cells slots (pc + 3) Ls (.long v :: st) := by
  obtain ⟨p, e, m, args, below, meth, c, S0, T, locs, F, X, eT, N, r, ex⟩ := k
  exact mk F X eT N (fun t q => r t (X.ldc2J F.1 F.2.2.2.2.1 (mvT F.2.2.2.1 w) rfl (hb F.2.1 hd) q)) ex
theorem Wk.getF {i : Nat} {O n d : String} {v : Value} (k : Wk l Z R y bytes maxL ret n0 Xt s h cells slots pc Ls (.ref a :: st)) (w : (Jvm.Cond.fieldLink y.cls i O n d).before a0 Z = true) (A : Fld Z h a O n d v) (hd : decode bytes pc = .ok (.getfield i, 3)) : Wk l Z R y bytes maxL ret n0 Xt s h cells slots (pc + 3) Ls (v :: st) := by
  obtain ⟨p, e, m, args, below, meth, c, S0, T, locs, F, X, eT, N, r, ex⟩ := k
  obtain ⟨T', X', e', q⟩ := RoadKit.getF X F.1 F.2.2.2.1 F.2.2.2.2.1 (host := "") (Or.inl w) Via.refl eT A (g := mkF m pc Ls (.ref a :: st)) rfl rfl (hb F.2.1 hd)
  exact mk F X' e' N (fun t u => r t (q t u)) ex
theorem Wk.getS {i : Nat} {O n d : String} {v : Value} (k : Wk l Z R y bytes maxL ret n0 Xt s h cells slots pc Ls st) (w : (Jvm.Cond.fieldLink y.cls i O n d).before a0 Z = true) (A : Sta Z h O n d v) (hd : decode bytes pc = .ok (.getstatic i, 3)) : Wk l Z R y bytes maxL ret n0 Xt s h cells slots (pc + 3) Ls (v :: st) := by
  obtain ⟨p, e, m, args, below, meth, c, S0, T, locs, F, X, eT, N, r, ex⟩ := k
  obtain ⟨T', X', e', q⟩ := RoadKit.getS X F.1 F.2.2.2.1 F.2.2.2.2.1 (host := "") w Via.refl eT A (g := mkF m pc Ls st) rfl (hb F.2.1 hd)
  exact mk F X' e' N (fun t u => r t (q t u)) ex
theorem Wk.putF {i kk : Nat} {O n d C : String} {v old : Value} (k : Wk l Z R y bytes maxL ret n0 Xt s h cells slots pc Ls (v :: .ref a :: st)) (w : (Jvm.Cond.fieldLink y.cls i O n d).before a0 Z = true) (A : Fld Z h a O n d old) (E : Exa Z h a C)
    (L : (Jvm.Cond.lays C O n d).before a0 Z = true ∨ ((Jvm.Cond.laysFinal C O n d).before a0 Z = true ∧ y.cls = O ∧ y.name = "<init>")) (wi : (Jvm.Cond.instantiable C kk).before a0 Z = true)
    (hty : parseFieldDescriptor d = some ty) (hn : narrow ty v = v) (hf : fits ty v = true) (hg : n0 ≤ a) (hd : decode bytes pc = .ok (.putfield i, 3)) :
    ∃ h', Wr h h' a (RoadKit.slotOf Z O n d) v ∧ Keep h h' [a] ∧ Fld Z h' a O n d v ∧ Exa Z h' a C ∧ Wk l Z R y bytes maxL ret n0 Xt s h' cells slots (pc + 3) Ls st := by
  obtain ⟨p, e, m, args, below, meth, c, S0, T, locs, F, X, eT, N, r, ex⟩ := k
  obtain ⟨T', h', X', e', W1, q⟩ := RoadKit.putF X F.1 F.2.2.2.1 F.2.2.2.2.1 (host := "") (Or.inl w) Via.refl eT A E (L.imp id fun z => ⟨z.1, z.2.1, F.2.2.2.2.2.1.trans z.2.2⟩) wi hty hn hf (g := mkF m pc Ls (v :: .ref a :: st)) rfl rfl (hb F.2.1 hd)
  exact ⟨h', W1, Keep.of_wr W1, A.same W1, E.wr W1, mk F X' e' (Fr.snoc X' N hg) (fun t u => r t (q t u)) ex⟩
theorem Wk.newO {i n : Nat} {C : String} (k : Wk l Z R y bytes maxL ret n0 Xt s h cells slots pc Ls st) (w : (Jvm.Cond.classLink y.cls i C).before a0 Z = true) (wi : (Jvm.Cond.instantiable C n).before a0 Z = true) (wz : (Jvm.Cond.initialized C).before a0 Z = true) (hd : decode bytes pc = .ok (.new i, 3)) (hc : cells + 1 ≤ R.cells) (hl : slots + n ≤ R.slots) :
    ∃ h', Keep h h' [] ∧ Exa Z h' h.size C ∧ (∀ {O nm d : String} {ty : FieldType}, Laid Z a0 C O nm d → parseFieldDescriptor d = some ty → Fld Z h' h.size O nm d (defaultValue ty)) ∧ Wk l Z R y bytes maxL ret n0 Xt s h' (cells + 1) (slots + n) (pc + 3) Ls (.ref h.size :: st) := by
  obtain ⟨p, e, m, args, below, meth, c, S0, T, locs, F, X, eT, N, r, ex⟩ := k
  obtain ⟨T', h', X', e', E, A, D, -, q⟩ := RoadKit.newO X F.1 F.2.2.2.1 F.2.2.2.2.1 w wi wz eT (g := mkF m pc Ls st) rfl (hb F.2.1 hd) hc hl
  exact ⟨h', Keep.of_ext E, A, D, mk F X' e' N (fun t u => r t (q t u)) ex⟩
theorem Wk.initO {i : Nat} (k : Wk l Z R y bytes maxL ret n0 Xt s h cells slots pc Ls (.ref a :: st)) (w1 : (Jvm.Cond.methodLink y.cls i Lib.objectInit).before a0 Z = true) (w2 : (Jvm.Cond.instanceMethod Lib.objectInit).before a0 Z = true) (w3 : (Jvm.Cond.code Lib.objectInit Jvm.Pilot.@@N@@.object_method_1_code 1 none).before a0 Z = true) (hd : decode bytes pc = .ok (.invokespecial i, 3)) (hL : Ls.size = maxL)
    (hf : 1 ≤ R.frames) (W0 : Nat) (hW : (st.map fun v => v.category).sum ≤ W0) (hl : W0 + 12 ≤ R.locals) : Wk l Z R y bytes maxL ret n0 Xt s h cells slots (pc + 3) Ls st := by
  obtain ⟨p, e, m, args, below, meth, c, S0, T, locs, F, X, eT, N, r, ex⟩ := k
  obtain ⟨T', X', e', q⟩ := RoadKit.initO X F.1 F.2.2.2.1 F.2.2.2.2.1 w1 w2 w3 eT (g := mkF m pc Ls (.ref a :: st)) rfl (by rw [F.2.2.1]; exact hL) rfl (hb F.2.1 hd) hf (W := W0) (by show 2 * 0 + _ ≤ _; omega) hl
  exact mk F X' e' N (fun t u => r t (q t u)) ex
theorem Wk.newA {n : Int32} {aty : ArrayType} (k : Wk l Z R y bytes maxL ret n0 Xt s h cells slots pc Ls (.int n :: st)) (w : (Jvm.Cond.arrayClass (newarray.typeOf aty)).before a0 Z = true) (hd : decode bytes pc = .ok (.newarray aty, 2)) (n' : Nat) (hN : n.toNatClampNeg = n') (hn : ¬ n < 0) (hm : n' ≤ 1000) (hc : cells + 1 ≤ R.cells) (hl : slots + n' ≤ R.slots) :
    ∃ h', Keep h h' [] ∧ AV Z h' h.size (newarray.typeOf aty) (List.replicate n' (defaultValue (newarray.typeOf aty))) ∧ Wk l Z R y bytes maxL ret n0 Xt s h' (cells + 1) (slots + n') (pc + 2) Ls (.ref h.size :: st) := by
  obtain ⟨p, e, m, args, below, meth, c, S0, T, locs, F, X, eT, N, r, ex⟩ := k
  obtain ⟨T', h', cA, X', e', E, A, q⟩ := newP X F.1 F.2.2.2.1 w eT (g := mkF m pc Ls (.int n :: st)) rfl (hb F.2.1 hd) rfl hn (cap := n') (Nat.le_of_eq hN) (by omega) hc hl
  refine ⟨h', Keep.of_ext E, ⟨by rw [List.length_replicate]; omega, _, A, ?_⟩, mk F X' e' N (fun t u => r t (q t u)) ex⟩
  subst hN; rfl
theorem AV.inb {c : Cell} {j : Int32} {i : Nat} (e : c.slots = vs.toArray) (h0 : ¬ j < 0) (hj : j.toNatClampNeg = i) (hi : i < vs.length) : ¬ (j < 0 ∨ c.slots.size ≤ j.toNatClampNeg) := by
  rintro (q | q)
  · exact h0 q
  · rw [e, hj, List.size_toArray] at q; omega
theorem AV.set {c : Cell} {i : Nat} {v : Value} (e : c.slots = vs.toArray) : (c.setSlot i v).slots = (vs.set i v).toArray := by
  show c.slots.setIfInBounds i v = _
  rw [e, List.setIfInBounds_toArray]
theorem Wk.stI {x j : Int32} (k : Wk l Z R y bytes maxL ret n0 Xt s h cells slots pc Ls (.int x :: .int j :: .ref a :: st)) (A : AV Z h a .int vs) (i : Nat) (hj : j.toNatClampNeg = i) (h0 : ¬ j < 0) (hi : i < vs.length) (hg : n0 ≤ a) (hd : decode bytes pc = .ok (.iastore, 1)) :
    ∃ h', Keep h h' [a] ∧ AV Z h' a .int (vs.set i (.int (x))) ∧ Wk l Z R y bytes maxL ret n0 Xt s h' cells slots (pc + 1) Ls st := by
  obtain ⟨p, e, m, args, below, meth, c, S0, T, locs, F, X, eT, N, r, ex⟩ := k
  obtain ⟨hlen, cl, A, hcl⟩ := A
  obtain ⟨T', h', X', e', W1, q⟩ := RoadKit.stI X F.1 F.2.2.2.1 eT A (AV.inb hcl h0 hj hi) (g := mkF m pc Ls (.int x :: .int j :: .ref a :: st)) rfl rfl (hb F.2.1 hd)
  refine ⟨h', Keep.of_wr W1, ⟨by rw [List.length_set]; exact hlen, _, A.same W1, ?_⟩, mk F X' e' (Fr.snoc X' N hg) (fun t u => r t (q t u)) ex⟩
  rw [hj]; exact AV.set hcl
theorem Wk.stB {x j : Int32} (k : Wk l Z R y bytes maxL ret n0 Xt s h cells slots pc Ls (.int x :: .int j :: .ref a :: st)) (A : AV Z h a .byte vs) (i : Nat) (hj : j.toNatClampNeg = i) (h0 : ¬ j < 0) (hi : i < vs.length) (hg : n0 ≤ a) (hd : decode bytes pc = .ok (.bastore, 1)) :
    ∃ h', Keep h h' [a] ∧ AV Z h' a .byte (vs.set i (.int (nar .byte x))) ∧ Wk l Z R y bytes maxL ret n0 Xt s h' cells slots (pc + 1) Ls st := by
  obtain ⟨p, e, m, args, below, meth, c, S0, T, locs, F, X, eT, N, r, ex⟩ := k
  obtain ⟨hlen, cl, A, hcl⟩ := A
  obtain ⟨T', h', X', e', W1, q⟩ := RoadKit.stB X F.1 F.2.2.2.1 eT A (AV.inb hcl h0 hj hi) (g := mkF m pc Ls (.int x :: .int j :: .ref a :: st)) rfl rfl (hb F.2.1 hd)
  refine ⟨h', Keep.of_wr W1, ⟨by rw [List.length_set]; exact hlen, _, A.same W1, ?_⟩, mk F X' e' (Fr.snoc X' N hg) (fun t u => r t (q t u)) ex⟩
  rw [hj]; exact AV.set hcl
theorem Wk.stC {x j : Int32} (k : Wk l Z R y bytes maxL ret n0 Xt s h cells slots pc Ls (.int x :: .int j :: .ref a :: st)) (A : AV Z h a .char vs) (i : Nat) (hj : j.toNatClampNeg = i) (h0 : ¬ j < 0) (hi : i < vs.length) (hg : n0 ≤ a) (hd : decode bytes pc = .ok (.castore, 1)) :
    ∃ h', Keep h h' [a] ∧ AV Z h' a .char (vs.set i (.int (nar .char x))) ∧ Wk l Z R y bytes maxL ret n0 Xt s h' cells slots (pc + 1) Ls st := by
  obtain ⟨p, e, m, args, below, meth, c, S0, T, locs, F, X, eT, N, r, ex⟩ := k
  obtain ⟨hlen, cl, A, hcl⟩ := A
  obtain ⟨T', h', X', e', W1, q⟩ := RoadKit.stC X F.1 F.2.2.2.1 eT A (AV.inb hcl h0 hj hi) (g := mkF m pc Ls (.int x :: .int j :: .ref a :: st)) rfl rfl (hb F.2.1 hd)
  refine ⟨h', Keep.of_wr W1, ⟨by rw [List.length_set]; exact hlen, _, A.same W1, ?_⟩, mk F X' e' (Fr.snoc X' N hg) (fun t u => r t (q t u)) ex⟩
  rw [hj]; exact AV.set hcl
theorem Wk.ldI {j : Int32} {v : Value} (k : Wk l Z R y bytes maxL ret n0 Xt s h cells slots pc Ls (.int j :: .ref a :: st)) (A : AV Z h a .int vs) (h0 : ¬ j < 0) (hv : vs[j.toNatClampNeg]? = some v) (hd : decode bytes pc = .ok (.iaload, 1)) : Wk l Z R y bytes maxL ret n0 Xt s h cells slots (pc + 1) Ls (v :: st) := by
  obtain ⟨p, e, m, args, below, meth, c, S0, T, locs, F, X, eT, N, r, ex⟩ := k
  obtain ⟨hlen, cl, A, hcl⟩ := A
  have hi : j.toNatClampNeg < vs.length := (List.getElem?_eq_some_iff.mp hv).1
  exact mk F X eT N (fun t u => r t (X.iaload F.1 (j := j) (v := v) (by rw [eT]; exact A.1) (State.isArrayOf_alike F.2.2.2.1.alike A.2.1) A.2.2 (AV.inb hcl h0 rfl hi) (by rw [hcl, List.getElem?_toArray]; exact hv) (g := mkF m pc Ls (.int j :: .ref a :: st)) rfl rfl (hb F.2.1 hd) t u)) ex
theorem Wk.ldB {j : Int32} {v : Value} (k : Wk l Z R y bytes maxL ret n0 Xt s h cells slots pc Ls (.int j :: .ref a :: st)) (A : AV Z h a .byte vs) (h0 : ¬ j < 0) (hv : vs[j.toNatClampNeg]? = some v) (hd : decode bytes pc = .ok (.baload, 1)) : Wk l Z R y bytes maxL ret n0 Xt s h cells slots (pc + 1) Ls (v :: st) := by
  obtain ⟨p, e, m, args, below, meth, c, S0, T, locs, F, X, eT, N, r, ex⟩ := k
  obtain ⟨hlen, cl, A, hcl⟩ := A
  have hi : j.toNatClampNeg < vs.length := (List.getElem?_eq_some_iff.mp hv).1
  exact mk F X eT N (fun t u => r t (X.baloadBytes F.1 (j := j) (v := v) (by rw [eT]; exact A.1) (State.isArrayOf_alike F.2.2.2.1.alike A.2.1) A.2.2 (AV.inb hcl h0 rfl hi) (by rw [hcl, List.getElem?_toArray]; exact hv) (g := mkF m pc Ls (.int j :: .ref a :: st)) rfl rfl (hb F.2.1 hd) t u)) ex
theorem Wk.ldC {j : Int32} {v : Value} (k : Wk l Z R y bytes maxL ret n0 Xt s h cells slots pc Ls (.int j :: .ref a :: st)) (A : AV Z h a .char vs) (h0 : ¬ j < 0) (hv : vs[j.toNatClampNeg]? = some v) (hd : decode bytes pc = .ok (.caload, 1)) : Wk l Z R y bytes maxL ret n0 Xt s h cells slots (pc + 1) Ls (v :: st) := by
  obtain ⟨p, e, m, args, below, meth, c, S0, T, locs, F, X, eT, N, r, ex⟩ := k
  obtain ⟨hlen, cl, A, hcl⟩ := A
  have hi : j.toNatClampNeg < vs.length := (List.getElem?_eq_some_iff.mp hv).1
  exact mk F X eT N (fun t u => r t (X.caload F.1 (j := j) (v := v) (by rw [eT]; exact A.1) (State.isArrayOf_alike F.2.2.2.1.alike A.2.1) A.2.2 (AV.inb hcl h0 rfl hi) (by rw [hcl, List.getElem?_toArray]; exact hv) (g := mkF m pc Ls (.int j :: .ref a :: st)) rfl rfl (hb F.2.1 hd) t u)) ex
theorem Wk.len {n : Int32} (k : Wk l Z R y bytes maxL ret n0 Xt s h cells slots pc Ls (.ref a :: st)) (A : AV Z h a ty vs) (hn : vs.length.toInt32 = n) (hd : decode bytes pc = .ok (.arraylength, 1)) : Wk l Z R y bytes maxL ret n0 Xt s h cells slots (pc + 1) Ls (.int n :: st) := by
  obtain ⟨p, e, m, args, below, meth, c, S0, T, locs, F, X, eT, N, r, ex⟩ := k
  obtain ⟨hlen, cl, A, hcl⟩ := A
  have e : cl.slots.size.toInt32 = n := by rw [hcl, List.size_toArray]; exact hn
  exact mk F X eT N (fun t u => r t (X.arraylength F.1 (cell := cl) (by rw [eT]; exact A.1) (State.isArrayOf_alike F.2.2.2.1.alike A.2.1) (g := mkF m pc Ls (.ref a :: st)) rfl rfl (hb F.2.1 hd) t (by rw [e]; exact u))) ex
theorem Wk.callS {i : Nat} {y' : MethodName} {bytes' : ByteArray} {maxL' : Nat} {ret' : Option FieldType} {rm : Room} {P' : Option Value → Heap → Prop} {argsL rest : List Value} (k : Wk l Z R y bytes maxL ret n0 Xt s h cells slots pc Ls st) (wl : (Jvm.Cond.methodLink y.cls i y').before a0 Z = true) (wt : (Jvm.Cond.static y').before a0 Z = true) (wi : (Jvm.Cond.initialized y'.cls).before a0 Z = true) (wc : (Jvm.Cond.code y' bytes' maxL' ret').before a0 Z = true)
    (hy : y'.cls ≠ "java/lang/invoke/MethodHandle" ∧ y'.cls ≠ "java/lang/invoke/VarHandle") (hC : Con l Z y' bytes' maxL' ret' rm argsL.toArray h n0 P') (hlen : ∀ sig, parseMethodDescriptor y'.desc = some sig → argsL.length = sig.parameters.length)
    (hd : decode bytes pc = .ok (.invokestatic i, 3)) (hst : st = argsL.reverse ++ rest) (hL : Ls.size = maxL) (W0 : Nat) (hW : (rest.map fun v => v.category).sum ≤ W0) (hf : rm.frames + 1 ≤ R.frames) (hl : W0 + (maxL' + 11) + rm.locals ≤ R.locals) (hc : cells + rm.cells ≤ R.cells) (hs : slots + rm.slots ≤ R.slots) : ∃ v h', P' v h' ∧ Wk l Z R y bytes maxL ret n0 Xt s h' (cells + rm.cells) (slots + rm.slots) (pc + 3) Ls (v.toList ++ rest) := by
  obtain ⟨p, e, m, args, below, meth, c, S0, T, locs, F, X, eT, N, r, ex⟩ := k
  obtain ⟨v, vm₁, ⟨T', L', k', n'⟩, -, X', ⟨Lc, hQ, l1, y1, z1⟩, q⟩ := Jvm.LawKit.callS X F.1 (y := y') F.2.2.2.2.1 (mvT F.2.2.2.1 wl) (mvT F.2.2.2.1 wt) (mvT F.2.2.2.1 wi) (mvT F.2.2.2.1 wc) hy (backOf (W := W0) (Q := fun v h L => Fr n0 L ∧ P' v h) (hC []) F.2.2.2.1 wc wi hf hl) (g := mkF m pc Ls st) rfl (by rw [F.2.2.1]; exact hL) (argsL := argsL) (rest := rest) hlen hst (by show 2 * 0 + _ ≤ _; omega) (hb F.2.1 hd) (fun _ _ => ⟨rfl, eT, hc, hs⟩)
  dsimp only [Pt.U, Pt.locs, Pt.cells, Pt.slots] at X' l1 y1 z1 q hQ
  subst l1 y1 z1
  exact ⟨v, T'.heap, hQ.2, mk F X' rfl (Fr.app N hQ.1) (fun t u => r t (q t u)) ex⟩
theorem Wk.callSN {i : Nat} {y' : MethodName} {bytes' : ByteArray} {maxL' : Nat} {ret' : Option FieldType} {rm : Room} {P' : Option Value → Heap → Prop} {argsL rest : List Value} {host : String} (k : Wk l Z R y bytes maxL ret n0 Xt s h cells slots pc Ls st) (wl : (Jvm.Cond.methodLinkNest y.cls i y' host).before a0 Z = true) (wt : (Jvm.Cond.static y').before a0 Z = true) (wi : (Jvm.Cond.initialized y'.cls).before a0 Z = true) (wc : (Jvm.Cond.code y' bytes' maxL' ret').before a0 Z = true)
    (hy : y'.cls ≠ "java/lang/invoke/MethodHandle" ∧ y'.cls ≠ "java/lang/invoke/VarHandle") (hC : Con l Z y' bytes' maxL' ret' rm argsL.toArray h n0 P') (hlen : ∀ sig, parseMethodDescriptor y'.desc = some sig → argsL.length = sig.parameters.length)
    (hd : decode bytes pc = .ok (.invokestatic i, 3)) (hst : st = argsL.reverse ++ rest) (hL : Ls.size = maxL) (W0 : Nat) (hW : (rest.map fun v => v.category).sum ≤ W0) (hf : rm.frames + 1 ≤ R.frames) (hl : W0 + (maxL' + 11) + rm.locals ≤ R.locals) (hc : cells + rm.cells ≤ R.cells) (hs : slots + rm.slots ≤ R.slots) : ∃ v h', P' v h' ∧ Wk l Z R y bytes maxL ret n0 Xt s h' (cells + rm.cells) (slots + rm.slots) (pc + 3) Ls (v.toList ++ rest) := by
  obtain ⟨p, e, m, args, below, meth, c, S0, T, locs, F, X, eT, N, r, ex⟩ := k
  obtain ⟨v, vm₁, ⟨T', L', k', n'⟩, -, X', ⟨Lc, hQ, l1, y1, z1⟩, q⟩ := RoadKit.callSN X F.1 (y := y') F.2.2.2.2.1 (Jvm.Cond.methodLinkNest_wide F.2.2.2.1 wl :) (mvT F.2.2.2.1 wt) (mvT F.2.2.2.1 wi) (mvT F.2.2.2.1 wc) hy (backOf (W := W0) (Q := fun v h L => Fr n0 L ∧ P' v h) (hC []) F.2.2.2.1 wc wi hf hl) (g := mkF m pc Ls st) rfl (by rw [F.2.2.1]; exact hL) (argsL := argsL) (rest := rest) hlen hst (by show 2 * 0 + _ ≤ _; omega) (hb F.2.1 hd) (fun _ _ => ⟨rfl, eT, hc, hs⟩)
  dsimp only [Pt.U, Pt.locs, Pt.cells, Pt.slots] at X' l1 y1 z1 q hQ
  subst l1 y1 z1
  exact ⟨v, T'.heap, hQ.2, mk F X' rfl (Fr.app N hQ.1) (fun t u => r t (q.trans u)) ex⟩
theorem Wk.callN {i : Nat} {y' : MethodName} {bytes' : ByteArray} {maxL' : Nat} {rm : Room} {P' : Option Value → Heap → Prop} {argsL rest : List Value} (k : Wk l Z R y bytes maxL ret n0 Xt s h cells slots pc Ls st) (hy1 : y'.name = "<init>") (wl : (Jvm.Cond.methodLink y.cls i y').before a0 Z = true) (wm : (Jvm.Cond.instanceMethod y').before a0 Z = true) (wi : (Jvm.Cond.initialized y'.cls).before a0 Z = true) (wc : (Jvm.Cond.code y' bytes' maxL' none).before a0 Z = true)
    (hy : y'.cls ≠ "java/lang/invoke/MethodHandle" ∧ y'.cls ≠ "java/lang/invoke/VarHandle") (hC : Con l Z y' bytes' maxL' none rm (.ref a :: argsL).toArray h n0 P') (hlen : ∀ sig, parseMethodDescriptor y'.desc = some sig → argsL.length = sig.parameters.length)
    (hd : decode bytes pc = .ok (.invokespecial i, 3)) (hst : st = argsL.reverse ++ .ref a :: rest) (hL : Ls.size = maxL) (W0 : Nat) (hW : (rest.map fun v => v.category).sum ≤ W0) (hf : rm.frames + 1 ≤ R.frames) (hl : W0 + (maxL' + 11) + rm.locals ≤ R.locals) (hc : cells + rm.cells ≤ R.cells) (hs : slots + rm.slots ≤ R.slots) : ∃ v h', P' v h' ∧ Wk l Z R y bytes maxL ret n0 Xt s h' (cells + rm.cells) (slots + rm.slots) (pc + 3) Ls (v.toList ++ rest) := by
  obtain ⟨p, e, m, args, below, meth, c, S0, T, locs, F, X, eT, N, r, ex⟩ := k
  obtain ⟨v, vm₁, ⟨T', L', k', n'⟩, -, X', ⟨Lc, hQ, l1, y1, z1⟩, q⟩ := X.specialBack F.1 (y := y') hy1 F.2.2.2.2.1 (mvT F.2.2.2.1 wl) (mvT F.2.2.2.1 wm) (mvT F.2.2.2.1 wc) hy (backOf (W := W0) (Q := fun v h L => Fr n0 L ∧ P' v h) (hC []) F.2.2.2.1 wc wi hf hl) (g := mkF m pc Ls st) rfl (by rw [F.2.2.1]; exact hL) (Steps.refl _) (a := a) (argsL := argsL) (rest := rest) hlen hst (by show 2 * 0 + _ ≤ _; omega) (hb F.2.1 hd) (fun _ _ => ⟨rfl, eT, hc, hs⟩)
  dsimp only [Pt.U, Pt.locs, Pt.cells, Pt.slots] at X' l1 y1 z1 q hQ
  subst l1 y1 z1
  exact ⟨v, T'.heap, hQ.2, mk F X' rfl (Fr.app N hQ.1) (fun t u => r t (q.trans u)) ex⟩
theorem Wk.callV {i : Nat} {y' : MethodName} {bytes' : ByteArray} {maxL' : Nat} {ret' : Option FieldType} {rm : Room} {P' : Option Value → Heap → Prop} {argsL rest : List Value} {C : String} (k : Wk l Z R y bytes maxL ret n0 Xt s h cells slots pc Ls st) (wl : (Jvm.Cond.methodLink y.cls i y').before a0 Z = true) (wd : (Jvm.Cond.declares y').before a0 Z = true) (wm : (Jvm.Cond.instanceMethod y').before a0 Z = true) (wsl : (Jvm.Cond.selects C y' y').before a0 Z = true) (hCy : C = y'.cls) (wi : (Jvm.Cond.initialized y'.cls).before a0 Z = true) (wc : (Jvm.Cond.code y' bytes' maxL' ret').before a0 Z = true)
    (hy : y'.cls ≠ "java/lang/invoke/MethodHandle" ∧ y'.cls ≠ "java/lang/invoke/VarHandle") (E : Exa Z h a C) (hC : Con l Z y' bytes' maxL' ret' rm (.ref a :: argsL).toArray h n0 P') (hlen : ∀ sig, parseMethodDescriptor y'.desc = some sig → argsL.length = sig.parameters.length)
    (hd : decode bytes pc = .ok (.invokevirtual i, 3)) (hst : st = argsL.reverse ++ .ref a :: rest) (hL : Ls.size = maxL) (W0 : Nat) (hW : (rest.map fun v => v.category).sum ≤ W0) (hf : rm.frames + 1 ≤ R.frames) (hl : W0 + (maxL' + 11) + rm.locals ≤ R.locals) (hc : cells + rm.cells ≤ R.cells) (hs : slots + rm.slots ≤ R.slots) : ∃ v h', P' v h' ∧ Wk l Z R y bytes maxL ret n0 Xt s h' (cells + rm.cells) (slots + rm.slots) (pc + 3) Ls (v.toList ++ rest) := by
  obtain ⟨p, e, m, args, below, meth, c, S0, T, locs, F, X, eT, N, r, ex⟩ := k
  subst hCy
  obtain ⟨cq, kq, q1, q2, q3⟩ := isOf F.2.2.2.1 eT E
  obtain ⟨v, vm₁, ⟨T', L', k', n'⟩, -, X', ⟨Lc, hQ, l1, y1, z1⟩, q⟩ := X.virtualBack F.1 (y := y') (z := y') F.2.2.2.2.1 (mvT F.2.2.2.1 wl) (mvT F.2.2.2.1 wd) (notFace_of_selects (args := #[]) (mvT F.2.2.2.1 wsl)) (mvT F.2.2.2.1 wsl) (mvT F.2.2.2.1 wm) hy (backOf (W := W0) (Q := fun v h L => Fr n0 L ∧ P' v h) (hC []) F.2.2.2.1 wc wi hf hl) q1 q3 (g := mkF m pc Ls st) rfl (by rw [F.2.2.1]; exact hL) (Steps.refl _) (argsL := argsL) (rest := rest) hlen hst (by show 2 * 0 + _ ≤ _; omega) (hb F.2.1 hd) (fun _ _ => ⟨rfl, eT, hc, hs⟩)
  dsimp only [Pt.U, Pt.locs, Pt.cells, Pt.slots] at X' l1 y1 z1 q hQ
  subst l1 y1 z1
  exact ⟨v, T'.heap, hQ.2, mk F X' rfl (Fr.app N hQ.1) (fun t u => r t (q.trans u)) ex⟩
theorem Wk.callP {i : Nat} {y' : MethodName} {bytes' : ByteArray} {maxL' : Nat} {ret' : Option FieldType} {rm : Room} {P' : Option Value → Heap → Prop} {argsL rest : List Value} {z : MethodName} (k : Wk l Z R y bytes maxL ret n0 Xt s h cells slots pc Ls st) (wl : (Jvm.Cond.methodLink y.cls i y').before a0 Z = true) (wm : (Jvm.Cond.instanceMethod y').before a0 Z = true) (wp : (Jvm.Cond.privateMethod y').before a0 Z = true) (wz : (Jvm.Cond.selects y'.cls z z).before a0 Z = true) (hz : z.cls = y'.cls) (wi : (Jvm.Cond.initialized y'.cls).before a0 Z = true) (wc : (Jvm.Cond.code y' bytes' maxL' ret').before a0 Z = true)
    (hy : y'.cls ≠ "java/lang/invoke/MethodHandle" ∧ y'.cls ≠ "java/lang/invoke/VarHandle") (E : Exa Z h a y'.cls) (hC : Con l Z y' bytes' maxL' ret' rm (.ref a :: argsL).toArray h n0 P') (hlen : ∀ sig, parseMethodDescriptor y'.desc = some sig → argsL.length = sig.parameters.length)
    (hd : decode bytes pc = .ok (.invokevirtual i, 3)) (hst : st = argsL.reverse ++ .ref a :: rest) (hL : Ls.size = maxL) (W0 : Nat) (hW : (rest.map fun v => v.category).sum ≤ W0) (hf : rm.frames + 1 ≤ R.frames) (hl : W0 + (maxL' + 11) + rm.locals ≤ R.locals) (hc : cells + rm.cells ≤ R.cells) (hs : slots + rm.slots ≤ R.slots) : ∃ v h', P' v h' ∧ Wk l Z R y bytes maxL ret n0 Xt s h' (cells + rm.cells) (slots + rm.slots) (pc + 3) Ls (v.toList ++ rest) := by
  obtain ⟨p, e, m, args, below, meth, c, S0, T, locs, F, X, eT, N, r, ex⟩ := k
  obtain ⟨cq, q1, q2⟩ := E.cell
  have hsz : (Jvm.Cond.selects y'.cls z z).before args s = true := mvT F.2.2.2.1 wz
  have hpv : s.PrivateAt y' := Jvm.Cond.privateMethod_at (mvP F.2.2.2.1 wp (args := #[]))
  have hsel : (Jvm.Cond.selects y'.cls y' y').before args s = true := by
    obtain ⟨c2, r2, m2, u1, u2, u3, u4, kP, u5, u6⟩ := Jvm.Cond.selects_spec hsz
    have u7 : s.vm.findClass z.cls = some m2.cls := findClass_of_methodNamed u3
    rw [hz] at u7
    exact selects_self_of_private u7 u5 u6 hpv (mvT F.2.2.2.1 wm) hy
  obtain ⟨v, vm₁, ⟨T', L', k', n'⟩, -, X', ⟨Lc, hQ, l1, y1, z1⟩, q⟩ := X.privateBack F.1 (y := y') F.2.2.2.2.1 (mvT F.2.2.2.1 wl) (mvT F.2.2.2.1 wm) hsel hpv (mvT F.2.2.2.1 wc) hy (backOf (W := W0) (Q := fun v h L => Fr n0 L ∧ P' v h) (hC []) F.2.2.2.1 wc wi hf hl) (g := mkF m pc Ls st) rfl (by rw [F.2.2.1]; exact hL) (Steps.refl _) (a := a) (by rw [eT]; exact q1) q2 (argsL := argsL) (rest := rest) hlen hst (by show 2 * 0 + _ ≤ _; omega) (hb F.2.1 hd) (fun _ _ => ⟨rfl, eT, hc, hs⟩)
  dsimp only [Pt.U, Pt.locs, Pt.cells, Pt.slots] at X' l1 y1 z1 q hQ
  subst l1 y1 z1
  exact ⟨v, T'.heap, hQ.2, mk F X' rfl (Fr.app N hQ.1) (fun t u => r t (q.trans u)) ex⟩
theorem Wk.tswIn {x : Int32} {dflt low high : Int} {offs : Array Int} {len : Nat} {o : Int} {pc' : Nat} (k : Wk l Z R y bytes maxL ret n0 Xt s h cells slots pc Ls (.int x :: st)) (hd : decode bytes pc = .ok (.tableswitch dflt low high offs, len)) (hin : ¬ (x.toInt < low ∨ x.toInt > high)) (hoff : offs[(x.toInt - low).toNat]? = some o) (hp : 0 ≤ (pc : Int) + o ∧ ((pc : Int) + o).toNat = pc') : Wk l Z R y bytes maxL ret n0 Xt s h cells slots pc' Ls st := k.pure fun a hx hb' q => XS.tswIn a hx rfl (pc0 := pc) (pc' := pc') rfl (hb hb' hd) rfl hin hoff hp.1 hp.2 q
theorem Wk.tswOut {x : Int32} {dflt low high : Int} {offs : Array Int} {len : Nat} {pc' : Nat} (k : Wk l Z R y bytes maxL ret n0 Xt s h cells slots pc Ls (.int x :: st)) (hd : decode bytes pc = .ok (.tableswitch dflt low high offs, len)) (hout : x.toInt < low ∨ x.toInt > high) (hp : 0 ≤ (pc : Int) + dflt ∧ ((pc : Int) + dflt).toNat = pc') : Wk l Z R y bytes maxL ret n0 Xt s h cells slots pc' Ls st := k.pure fun a hx hb' q => XS.tswOut a hx rfl (pc0 := pc) (pc' := pc') rfl (hb hb' hd) rfl hout hp.1 hp.2 q
theorem Wk.out {t : FieldType} {w : Value} {i : Instr} (k : Wk l Z R y bytes maxL (some t) n0 (Ex s R n0 P G) s h cells slots pc Ls (w :: st)) (hn : narrow t w = w)
    (hi : (i = .ireturn ∧ (t = .int ∨ t = .boolean ∨ t = .byte ∨ t = .char ∨ t = .short) ∧ ∃ z, w = .int z) ∨ (i = .lreturn ∧ t = .long ∧ ∃ z, w = .long z) ∨ (i = .dreturn ∧ t = .double ∧ ∃ z, w = .double z) ∨ (i = .freturn ∧ t = .float ∧ ∃ z, w = .float z) ∨ (i = .areturn ∧ t.isReference = true ∧ w.isRef = true))
    (hd : decode bytes pc = .ok (i, 1)) (hc : cells ≤ R.cells) (hs : slots ≤ R.slots) (hP : P (some w) h) : G := by
  obtain ⟨p, e, m, args, below, meth, c, S0, T, locs, F, X, eT, N, r, ex⟩ := k
  have hlk : meth.locks = false := F.2.2.2.2.2.2.2
  obtain ⟨fs, hr, hrun, hended, hW, hsame⟩ := X.leave (v := some w) (fun z => by rw [F.2.2.2.2.2.2.1] at z; cases z)
  refine ex ⟨_, _, r _ (retOut X F.1 F.2.2.2.2.2.2.1 hn hi (hb F.2.1 hd) hr), hrun, hended, _, locs, rfl, ⟨N, ?_⟩, ⟨_, rfl⟩, hW, hsame.mono hc hs⟩
  show P (some w) T.heap
  rw [eT]; exact hP
theorem Wk.outN (k : Wk l Z R y bytes maxL none n0 (Ex s R n0 P G) s h cells slots pc Ls []) (hd : decode bytes pc = .ok (.return_, 1)) (hc : cells ≤ R.cells) (hs : slots ≤ R.slots) (hP : P none h) : G := by
  obtain ⟨p, e, m, args, below, meth, c, S0, T, locs, F, X, eT, N, r, ex⟩ := k
  have hlk : meth.locks = false := F.2.2.2.2.2.2.2
  obtain ⟨fs, hr, hrun, hended, hW, hsame⟩ := X.leave (v := none) (fun _ => rfl)
  refine ex ⟨_, _, r _ (X.returnOut F.1 F.2.2.2.2.2.2.1 (hb F.2.1 hd) hr), hrun, hended, _, locs, rfl, ⟨N, ?_⟩, ⟨_, rfl⟩, hW, hsame.mono hc hs⟩
  show P none T.heap
  rw [eT]; exact hP
theorem Wk.outI {z : Int32} (k : Wk l Z R y bytes maxL (some .int) n0 (Ex s R n0 P G) s h cells slots pc Ls (.int z :: st)) (hd : decode bytes pc = .ok (.ireturn, 1)) (hc : cells ≤ R.cells) (hs : slots ≤ R.slots) (hP : P (some (.int z)) h) : G := k.out rfl (Or.inl ⟨rfl, Or.inl rfl, z, rfl⟩) hd hc hs hP
theorem Wk.outZ {z : Int32} (k : Wk l Z R y bytes maxL (some .boolean) n0 (Ex s R n0 P G) s h cells slots pc Ls (.int z :: st)) (hz : z = 0 ∨ z = 1) (hd : decode bytes pc = .ok (.ireturn, 1)) (hc : cells ≤ R.cells) (hs : slots ≤ R.slots) (hP : P (some (.int z)) h) : G := k.out (by rcases hz with rfl | rfl <;> rfl) (Or.inl ⟨rfl, Or.inr (Or.inl rfl), z, rfl⟩) hd hc hs hP
theorem Wk.outC {z : Int32} (k : Wk l Z R y bytes maxL (some .char) n0 (Ex s R n0 P G) s h cells slots pc Ls (.int z :: st)) (hz : z.toUInt32.toUInt16.toUInt32.toInt32 = z) (hd : decode bytes pc = .ok (.ireturn, 1)) (hc : cells ≤ R.cells) (hs : slots ≤ R.slots) (hP : P (some (.int z)) h) : G := k.out (congrArg Value.int hz) (Or.inl ⟨rfl, Or.inr (Or.inr (Or.inr (Or.inl rfl))), z, rfl⟩) hd hc hs hP
theorem Wk.outB {z : Int32} (k : Wk l Z R y bytes maxL (some .byte) n0 (Ex s R n0 P G) s h cells slots pc Ls (.int z :: st)) (hz : z.toInt8.toInt32 = z) (hd : decode bytes pc = .ok (.ireturn, 1)) (hc : cells ≤ R.cells) (hs : slots ≤ R.slots) (hP : P (some (.int z)) h) : G := k.out (congrArg Value.int hz) (Or.inl ⟨rfl, Or.inr (Or.inr (Or.inl rfl)), z, rfl⟩) hd hc hs hP
theorem Wk.outJ {z : Int64} (k : Wk l Z R y bytes maxL (some .long) n0 (Ex s R n0 P G) s h cells slots pc Ls (.long z :: st)) (hd : decode bytes pc = .ok (.lreturn, 1)) (hc : cells ≤ R.cells) (hs : slots ≤ R.slots) (hP : P (some (.long z)) h) : G := k.out rfl (Or.inr (Or.inl ⟨rfl, rfl, z, rfl⟩)) hd hc hs hP
theorem Wk.outA {w : Value} {t : FieldType} (k : Wk l Z R y bytes maxL (some t) n0 (Ex s R n0 P G) s h cells slots pc Ls (w :: st)) (ht : t.isReference = true) (hw : w.isRef = true) (hd : decode bytes pc = .ok (.areturn, 1)) (hc : cells ≤ R.cells) (hs : slots ≤ R.slots) (hP : P (some w) h) : G := k.out (by cases t <;> first | rfl | cases ht) (Or.inr (Or.inr (Or.inr (Or.inr ⟨rfl, ht, hw⟩)))) hd hc hs hP
end L
end Jvm.Wk
namespace Jvm.Pilot.@@N@@
open Jvm Jvm.ClassFile Sem Op Lib Jvm.Free Jvm.Stand Jvm.LawKit Jvm.RoadKit Bundle Jvm.Wk Jvm.Pilot.@@N@@.Jvm.D
def VR (g r : Int32) : Prop := (¬ g &&& (4 : Int32) = 0 ∧ r = (-1 : Int32)) ∨ (g &&& (4 : Int32) = 0 ∧ r = g &&& (3 : Int32))
def ER (g k x y r : Int32) : Prop := (¬ g &&& (4 : Int32) = 0 ∧ r = k) ∨ (g &&& (4 : Int32) = 0 ∧ ((g &&& (3 : Int32) = 0 ∧ r = x) ∨ (g &&& (3 : Int32) = 1 ∧ r = y) ∨ (g &&& (3 : Int32) = 2 ∧ r = x ^^^ (-1 : Int32)) ∨ (¬ g &&& (3 : Int32) = 0 ∧ ¬ g &&& (3 : Int32) = 1 ∧ ¬ g &&& (3 : Int32) = 2 ∧ r = y ^^^ (-1 : Int32))))
def RL (v e k x y : Int32) : Prop := (v = (-1 : Int32) ∧ e = k) ∨ (v = (0 : Int32) ∧ e = x) ∨ (v = (1 : Int32) ∧ e = y) ∨ (v = (2 : Int32) ∧ e = x ^^^ (-1 : Int32)) ∨ (v = (3 : Int32) ∧ e = y ^^^ (-1 : Int32))
theorem own_and3 (g : Int32) : g &&& (3 : Int32) = 0 ∨ g &&& (3 : Int32) = 1 ∨ g &&& (3 : Int32) = 2 ∨ g &&& (3 : Int32) = 3 := by
  have e1 : (g &&& (3 : Int32)).toInt = g.toInt % 2 ^ 2 := Jvm.Kit.i32_mask g 3 (k := 2) (by decide) (by decide)
  generalize g &&& (3 : Int32) = z at *
  rcases (show z.toInt = 0 ∨ z.toInt = 1 ∨ z.toInt = 2 ∨ z.toInt = 3 by omega) with q | q | q | q
  · exact Or.inl (Int32.toInt_inj.mp (q.trans rfl))
  · exact Or.inr (Or.inl (Int32.toInt_inj.mp (q.trans rfl)))
  · exact Or.inr (Or.inr (Or.inl (Int32.toInt_inj.mp (q.trans rfl))))
  · exact Or.inr (Or.inr (Or.inr (Int32.toInt_inj.mp (q.trans rfl))))
theorem own_rel {g k x y v e : Int32} (h1 : VR g v) (h2 : ER g k x y e) : RL v e k x y := by
  rcases h1 with ⟨a1, rfl⟩ | ⟨a1, rfl⟩
  · rcases h2 with ⟨b1, rfl⟩ | ⟨b1, -⟩
    · exact Or.inl ⟨rfl, rfl⟩
    · exact absurd b1 a1
  · rcases h2 with ⟨b1, -⟩ | ⟨-, b⟩
    · exact absurd a1 b1
    · rcases b with ⟨b, rfl⟩ | ⟨b, rfl⟩ | ⟨b, rfl⟩ | ⟨b0, b1, b2, rfl⟩
      · exact Or.inr (Or.inl ⟨b, rfl⟩)
      · exact Or.inr (Or.inr (Or.inl ⟨b, rfl⟩))
      · exact Or.inr (Or.inr (Or.inr (Or.inl ⟨b, rfl⟩)))
      · exact Or.inr (Or.inr (Or.inr (Or.inr ⟨((own_and3 g).resolve_left b0).resolve_left b1 |>.resolve_left b2, rfl⟩)))
theorem d1_0 : decode method_2_code 0 = .ok (.iload_n 0, 1) := by decide +kernel
theorem d1_1 : decode method_2_code 1 = .ok (.iconst 4, 1) := by decide +kernel
theorem d1_2 : decode method_2_code 2 = .ok (.iand, 1) := by decide +kernel
theorem d1_3 : decode method_2_code 3 = .ok (.ifCond .eq 7, 3) := by decide +kernel
theorem d1_6 : decode method_2_code 6 = .ok (.iconst (-1), 1) := by decide +kernel
theorem d1_7 : decode method_2_code 7 = .ok (.goto 6, 3) := by decide +kernel
theorem d1_10 : decode method_2_code 10 = .ok (.iload_n 0, 1) := by decide +kernel
theorem d1_11 : decode method_2_code 11 = .ok (.iconst 3, 1) := by decide +kernel
theorem d1_12 : decode method_2_code 12 = .ok (.iand, 1) := by decide +kernel
theorem d1_13 : decode method_2_code 13 = .ok (.ireturn, 1) := by decide +kernel
theorem pn1 : plainFor (⟨"com/example/chasewell/chasewell/engine/CompiledAtomInstantiatePinLaw", "var", "(I)I"⟩ : MethodName) = true := plainFor_of_name (show plainName "com/example/chasewell/chasewell/engine/CompiledAtomInstantiatePinLaw" = true by first | (simp [plainName, overriddenIn]; done) | decide +kernel)
theorem pd1 : parseMethodDescriptor "(I)I" = some ⟨[.int], some .int⟩ := by decide +kernel
abbrev W1 (l : Launch) (Z : State) (n0 : Nat) (P : Option Value → Heap → Prop) (G : Prop) (s : State) := Wk l Z ({ frames := 0, cells := 0, slots := 0, locals := 0 } : Room) (⟨"com/example/chasewell/chasewell/engine/CompiledAtomInstantiatePinLaw", "var", "(I)I"⟩ : MethodName) method_2_code 1 (some .int) n0 (Ex s ({ frames := 0, cells := 0, slots := 0, locals := 0 } : Room) n0 P G) s
abbrev Q1 (g : Int32) (h0 : Heap) : Option Value → Heap → Prop := fun v h => h0 = h ∧ ∃ r : Int32, v = some (.int r) ∧ VR g r
set_option maxRecDepth 65536 in
set_option maxHeartbeats 40000000 in
theorem con1 (l : Launch) (Z : State) (a0 : Array Value) (hw : ∀ d ∈ tables_1, d.before a0 Z = true) (g : Int32) (h0 : Heap) (n0 : Nat) : Con l Z (⟨"com/example/chasewell/chasewell/engine/CompiledAtomInstantiatePinLaw", "var", "(I)I"⟩ : MethodName) method_2_code 1 (some .int) ({ frames := 0, cells := 0, slots := 0, locals := 0 } : Room) #[.int g] h0 n0 (Q1 g h0) := by
  refine Con.of pn1 (Ls := #[.val (.int g)]) (fun m => by first | (simp [entryFrame, mkF, argsToLocals, Value.category]; done) | rfl) ?_
  intro G s k
  have k : W1 l Z n0 (Q1 g h0) G s h0 0 0 3 #[.val (.int g)] [(.int (g &&& (4 : Int32)))] := ((k.iloadN d1_0 rfl).iconst (4) d1_1 rfl).iand d1_2
  by_cases c1 : (g &&& (4 : Int32)) = 0
  · have k : W1 l Z n0 (Q1 g h0) G s h0 0 0 10 #[.val (.int g)] [] := k.ifT (pc' := 10) d1_3 (XT.i0_eq_t c1) (by decide)
    have k : W1 l Z n0 (Q1 g h0) G s h0 0 0 13 #[.val (.int g)] [(.int (g &&& (3 : Int32)))] := ((k.iloadN d1_10 rfl).iconst (3) d1_11 rfl).iand d1_12
    exact k.outI d1_13 (by decide) (by decide) ⟨rfl, _, rfl, Or.inr ⟨c1, rfl⟩⟩
  · have k : W1 l Z n0 (Q1 g h0) G s h0 0 0 6 #[.val (.int g)] [] := k.ifF d1_3 (XT.i0_eq_f c1)
    have k : W1 l Z n0 (Q1 g h0) G s h0 0 0 13 #[.val (.int g)] [(.int (-1 : Int32))] := (k.iconst (-1) d1_6 rfl).goto (pc' := 13) d1_7 (by decide)
    exact k.outI d1_13 (by decide) (by decide) ⟨rfl, _, rfl, Or.inl ⟨c1, rfl⟩⟩
theorem d2_0 : decode method_3_code 0 = .ok (.iload_n 0, 1) := by decide +kernel
theorem d2_1 : decode method_3_code 1 = .ok (.iconst 4, 1) := by decide +kernel
theorem d2_2 : decode method_3_code 2 = .ok (.iand, 1) := by decide +kernel
theorem d2_3 : decode method_3_code 3 = .ok (.ifCond .eq 5, 3) := by decide +kernel
theorem d2_6 : decode method_3_code 6 = .ok (.iload_n 1, 1) := by decide +kernel
theorem d2_7 : decode method_3_code 7 = .ok (.ireturn, 1) := by decide +kernel
theorem d2_8 : decode method_3_code 8 = .ok (.iload_n 0, 1) := by decide +kernel
theorem d2_9 : decode method_3_code 9 = .ok (.iconst 3, 1) := by decide +kernel
theorem d2_10 : decode method_3_code 10 = .ok (.iand, 1) := by decide +kernel
theorem d2_11 : decode method_3_code 11 = .ok (.istore 4, 2) := by decide +kernel
theorem d2_13 : decode method_3_code 13 = .ok (.iload 4, 2) := by decide +kernel
theorem d2_15 : decode method_3_code 15 = .ok (.ifCond .ne 5, 3) := by decide +kernel
theorem d2_18 : decode method_3_code 18 = .ok (.iload_n 2, 1) := by decide +kernel
theorem d2_19 : decode method_3_code 19 = .ok (.ireturn, 1) := by decide +kernel
theorem d2_20 : decode method_3_code 20 = .ok (.iload 4, 2) := by decide +kernel
theorem d2_22 : decode method_3_code 22 = .ok (.iconst 1, 1) := by decide +kernel
theorem d2_23 : decode method_3_code 23 = .ok (.if_icmp .ne 5, 3) := by decide +kernel
theorem d2_26 : decode method_3_code 26 = .ok (.iload_n 3, 1) := by decide +kernel
theorem d2_27 : decode method_3_code 27 = .ok (.ireturn, 1) := by decide +kernel
theorem d2_28 : decode method_3_code 28 = .ok (.iload 4, 2) := by decide +kernel
theorem d2_30 : decode method_3_code 30 = .ok (.iconst 2, 1) := by decide +kernel
theorem d2_31 : decode method_3_code 31 = .ok (.if_icmp .ne 7, 3) := by decide +kernel
theorem d2_34 : decode method_3_code 34 = .ok (.iload_n 2, 1) := by decide +kernel
theorem d2_35 : decode method_3_code 35 = .ok (.iconst (-1), 1) := by decide +kernel
theorem d2_36 : decode method_3_code 36 = .ok (.ixor, 1) := by decide +kernel
theorem d2_37 : decode method_3_code 37 = .ok (.ireturn, 1) := by decide +kernel
theorem d2_38 : decode method_3_code 38 = .ok (.iload_n 3, 1) := by decide +kernel
theorem d2_39 : decode method_3_code 39 = .ok (.iconst (-1), 1) := by decide +kernel
theorem d2_40 : decode method_3_code 40 = .ok (.ixor, 1) := by decide +kernel
theorem d2_41 : decode method_3_code 41 = .ok (.ireturn, 1) := by decide +kernel
theorem pn2 : plainFor (⟨"com/example/chasewell/chasewell/engine/CompiledAtomInstantiatePinLaw", "expect", "(IIII)I"⟩ : MethodName) = true := plainFor_of_name (show plainName "com/example/chasewell/chasewell/engine/CompiledAtomInstantiatePinLaw" = true by first | (simp [plainName, overriddenIn]; done) | decide +kernel)
theorem pd2 : parseMethodDescriptor "(IIII)I" = some ⟨[.int, .int, .int, .int], some .int⟩ := by decide +kernel
abbrev W2 (l : Launch) (Z : State) (n0 : Nat) (P : Option Value → Heap → Prop) (G : Prop) (s : State) := Wk l Z ({ frames := 0, cells := 0, slots := 0, locals := 0 } : Room) (⟨"com/example/chasewell/chasewell/engine/CompiledAtomInstantiatePinLaw", "expect", "(IIII)I"⟩ : MethodName) method_3_code 5 (some .int) n0 (Ex s ({ frames := 0, cells := 0, slots := 0, locals := 0 } : Room) n0 P G) s
abbrev Q2 (g k0 x0 y0 : Int32) (h0 : Heap) : Option Value → Heap → Prop := fun v h => h0 = h ∧ ∃ r : Int32, v = some (.int r) ∧ ER g k0 x0 y0 r
set_option maxRecDepth 65536 in
set_option maxHeartbeats 40000000 in
theorem con2 (l : Launch) (Z : State) (a0 : Array Value) (hw : ∀ d ∈ tables_1, d.before a0 Z = true) (g k0 x0 y0 : Int32) (h0 : Heap) (n0 : Nat) : Con l Z (⟨"com/example/chasewell/chasewell/engine/CompiledAtomInstantiatePinLaw", "expect", "(IIII)I"⟩ : MethodName) method_3_code 5 (some .int) ({ frames := 0, cells := 0, slots := 0, locals := 0 } : Room) #[.int g, .int k0, .int x0, .int y0] h0 n0 (Q2 g k0 x0 y0 h0) := by
  refine Con.of pn2 (Ls := #[.val (.int g), .val (.int k0), .val (.int x0), .val (.int y0), .unset]) (fun m => by first | (simp [entryFrame, mkF, argsToLocals, Value.category]; done) | rfl) ?_
  intro G s k
  have k : W2 l Z n0 (Q2 g k0 x0 y0 h0) G s h0 0 0 3 #[.val (.int g), .val (.int k0), .val (.int x0), .val (.int y0), .unset] [(.int (g &&& (4 : Int32)))] := ((k.iloadN d2_0 rfl).iconst (4) d2_1 rfl).iand d2_2
  by_cases c2 : (g &&& (4 : Int32)) = 0
  · have k : W2 l Z n0 (Q2 g k0 x0 y0 h0) G s h0 0 0 8 #[.val (.int g), .val (.int k0), .val (.int x0), .val (.int y0), .unset] [] := k.ifT (pc' := 8) d2_3 (XT.i0_eq_t c2) (by decide)
    have k : W2 l Z n0 (Q2 g k0 x0 y0 h0) G s h0 0 0 15 #[.val (.int g), .val (.int k0), .val (.int x0), .val (.int y0), .val (.int (g &&& (3 : Int32)))] [(.int (g &&& (3 : Int32)))] := ((((k.iloadN d2_8 rfl).iconst (3) d2_9 rfl).iand d2_10).istore d2_11 (Ls' := #[.val (.int g), .val (.int k0), .val (.int x0), .val (.int y0), .val (.int (g &&& (3 : Int32)))]) rfl).iload d2_13 rfl
    by_cases c3 : (g &&& (3 : Int32)) = 0
    · have k : W2 l Z n0 (Q2 g k0 x0 y0 h0) G s h0 0 0 18 #[.val (.int g), .val (.int k0), .val (.int x0), .val (.int y0), .val (.int (g &&& (3 : Int32)))] [] := k.ifF d2_15 (XT.i0_ne_f c3)
      have k : W2 l Z n0 (Q2 g k0 x0 y0 h0) G s h0 0 0 19 #[.val (.int g), .val (.int k0), .val (.int x0), .val (.int y0), .val (.int (g &&& (3 : Int32)))] [(.int x0)] := k.iloadN d2_18 rfl
      exact k.outI d2_19 (by decide) (by decide) ⟨rfl, _, rfl, Or.inr ⟨c2, Or.inl ⟨c3, rfl⟩⟩⟩
    · have k : W2 l Z n0 (Q2 g k0 x0 y0 h0) G s h0 0 0 20 #[.val (.int g), .val (.int k0), .val (.int x0), .val (.int y0), .val (.int (g &&& (3 : Int32)))] [] := k.ifT (pc' := 20) d2_15 (XT.i0_ne_t c3) (by decide)
      have k : W2 l Z n0 (Q2 g k0 x0 y0 h0) G s h0 0 0 23 #[.val (.int g), .val (.int k0), .val (.int x0), .val (.int y0), .val (.int (g &&& (3 : Int32)))] [(.int (1 : Int32)), (.int (g &&& (3 : Int32)))] := (k.iload d2_20 rfl).iconst (1) d2_22 rfl
      by_cases c4 : (g &&& (3 : Int32)) = (1 : Int32)
      · have k : W2 l Z n0 (Q2 g k0 x0 y0 h0) G s h0 0 0 26 #[.val (.int g), .val (.int k0), .val (.int x0), .val (.int y0), .val (.int (g &&& (3 : Int32)))] [] := k.icF d2_23 (XT.ii_ne_f c4)
        have k : W2 l Z n0 (Q2 g k0 x0 y0 h0) G s h0 0 0 27 #[.val (.int g), .val (.int k0), .val (.int x0), .val (.int y0), .val (.int (g &&& (3 : Int32)))] [(.int y0)] := k.iloadN d2_26 rfl
        exact k.outI d2_27 (by decide) (by decide) ⟨rfl, _, rfl, Or.inr ⟨c2, Or.inr (Or.inl ⟨c4, rfl⟩)⟩⟩
      · have k : W2 l Z n0 (Q2 g k0 x0 y0 h0) G s h0 0 0 28 #[.val (.int g), .val (.int k0), .val (.int x0), .val (.int y0), .val (.int (g &&& (3 : Int32)))] [] := k.icT (pc' := 28) d2_23 (XT.ii_ne_t c4) (by decide)
        have k : W2 l Z n0 (Q2 g k0 x0 y0 h0) G s h0 0 0 31 #[.val (.int g), .val (.int k0), .val (.int x0), .val (.int y0), .val (.int (g &&& (3 : Int32)))] [(.int (2 : Int32)), (.int (g &&& (3 : Int32)))] := (k.iload d2_28 rfl).iconst (2) d2_30 rfl
        by_cases c5 : (g &&& (3 : Int32)) = (2 : Int32)
        · have k : W2 l Z n0 (Q2 g k0 x0 y0 h0) G s h0 0 0 34 #[.val (.int g), .val (.int k0), .val (.int x0), .val (.int y0), .val (.int (g &&& (3 : Int32)))] [] := k.icF d2_31 (XT.ii_ne_f c5)
          have k : W2 l Z n0 (Q2 g k0 x0 y0 h0) G s h0 0 0 37 #[.val (.int g), .val (.int k0), .val (.int x0), .val (.int y0), .val (.int (g &&& (3 : Int32)))] [(.int (x0 ^^^ (-1 : Int32)))] := ((k.iloadN d2_34 rfl).iconst (-1) d2_35 rfl).ixor d2_36
          exact k.outI d2_37 (by decide) (by decide) ⟨rfl, _, rfl, Or.inr ⟨c2, Or.inr (Or.inr (Or.inl ⟨c5, rfl⟩))⟩⟩
        · have k : W2 l Z n0 (Q2 g k0 x0 y0 h0) G s h0 0 0 38 #[.val (.int g), .val (.int k0), .val (.int x0), .val (.int y0), .val (.int (g &&& (3 : Int32)))] [] := k.icT (pc' := 38) d2_31 (XT.ii_ne_t c5) (by decide)
          have k : W2 l Z n0 (Q2 g k0 x0 y0 h0) G s h0 0 0 41 #[.val (.int g), .val (.int k0), .val (.int x0), .val (.int y0), .val (.int (g &&& (3 : Int32)))] [(.int (y0 ^^^ (-1 : Int32)))] := ((k.iloadN d2_38 rfl).iconst (-1) d2_39 rfl).ixor d2_40
          exact k.outI d2_41 (by decide) (by decide) ⟨rfl, _, rfl, Or.inr ⟨c2, Or.inr (Or.inr (Or.inr ⟨c3, c4, c5, rfl⟩))⟩⟩
  · have k : W2 l Z n0 (Q2 g k0 x0 y0 h0) G s h0 0 0 6 #[.val (.int g), .val (.int k0), .val (.int x0), .val (.int y0), .unset] [] := k.ifF d2_3 (XT.i0_eq_f c2)
    have k : W2 l Z n0 (Q2 g k0 x0 y0 h0) G s h0 0 0 7 #[.val (.int g), .val (.int k0), .val (.int x0), .val (.int y0), .unset] [(.int k0)] := k.iloadN d2_6 rfl
    exact k.outI d2_7 (by decide) (by decide) ⟨rfl, _, rfl, Or.inl ⟨c2, rfl⟩⟩
theorem d3_0 : decode jdk_30_method_1_code 0 = .ok (.aload_n 0, 1) := by decide +kernel
theorem d3_1 : decode jdk_30_method_1_code 1 = .ok (.invokespecial 1, 3) := by decide +kernel
theorem d3_4 : decode jdk_30_method_1_code 4 = .ok (.return_, 1) := by decide +kernel
theorem pn3 : plainFor (⟨"java/lang/Record", "<init>", "()V"⟩ : MethodName) = true := plainFor_of_name (show plainName "java/lang/Record" = true by first | (simp [plainName, overriddenIn]; done) | decide +kernel)
theorem pd3 : parseMethodDescriptor "()V" = some ⟨[], none⟩ := by decide +kernel
abbrev W3 (l : Launch) (Z : State) (n0 : Nat) (P : Option Value → Heap → Prop) (G : Prop) (s : State) := Wk l Z ({ frames := 1, cells := 0, slots := 0, locals := 12 } : Room) (⟨"java/lang/Record", "<init>", "()V"⟩ : MethodName) jdk_30_method_1_code 1 none n0 (Ex s ({ frames := 1, cells := 0, slots := 0, locals := 12 } : Room) n0 P G) s
abbrev Q3 (h0 : Heap) : Option Value → Heap → Prop := fun v h => h0 = h ∧ v = none
set_option maxRecDepth 65536 in
set_option maxHeartbeats 40000000 in
theorem con3 (l : Launch) (Z : State) (a0 : Array Value) (hw : ∀ d ∈ tables_1, d.before a0 Z = true) (a : Nat) (h0 : Heap) (n0 : Nat) : Con l Z (⟨"java/lang/Record", "<init>", "()V"⟩ : MethodName) jdk_30_method_1_code 1 none ({ frames := 1, cells := 0, slots := 0, locals := 12 } : Room) #[.ref a] h0 n0 (Q3 h0) := by
  refine Con.of pn3 (Ls := #[.val (.ref a)]) (fun m => by first | (simp [entryFrame, mkF, argsToLocals, Value.category]; done) | rfl) ?_
  intro G s k
  have k : W3 l Z n0 (Q3 h0) G s h0 0 0 1 #[.val (.ref a)] [(.ref a)] := k.aloadN d3_0 rfl rfl
  have k : W3 l Z n0 (Q3 h0) G s h0 0 0 4 #[.val (.ref a)] [] := k.initO (hw _ (List.mem_of_getElem? (i := 19) rfl)) (hw _ (List.mem_of_getElem? (i := 20) rfl)) (hw _ (List.mem_of_getElem? (i := 21) rfl)) d3_1 rfl (by decide) 0 (Nat.le_of_eq rfl) (by decide)
  exact k.outN d3_4 (by decide) (by decide) ⟨rfl, rfl⟩
theorem d4_0 : decode prog_4_method_1_code 0 = .ok (.aload_n 0, 1) := by decide +kernel
theorem d4_1 : decode prog_4_method_1_code 1 = .ok (.invokespecial 1, 3) := by decide +kernel
theorem d4_4 : decode prog_4_method_1_code 4 = .ok (.aload_n 0, 1) := by decide +kernel
theorem d4_5 : decode prog_4_method_1_code 5 = .ok (.iload_n 1, 1) := by decide +kernel
theorem d4_6 : decode prog_4_method_1_code 6 = .ok (.putfield 7, 3) := by decide +kernel
theorem d4_9 : decode prog_4_method_1_code 9 = .ok (.aload_n 0, 1) := by decide +kernel
theorem d4_10 : decode prog_4_method_1_code 10 = .ok (.aload_n 2, 1) := by decide +kernel
theorem d4_11 : decode prog_4_method_1_code 11 = .ok (.putfield 13, 3) := by decide +kernel
theorem d4_14 : decode prog_4_method_1_code 14 = .ok (.aload_n 0, 1) := by decide +kernel
theorem d4_15 : decode prog_4_method_1_code 15 = .ok (.aload_n 3, 1) := by decide +kernel
theorem d4_16 : decode prog_4_method_1_code 16 = .ok (.putfield 17, 3) := by decide +kernel
theorem d4_19 : decode prog_4_method_1_code 19 = .ok (.return_, 1) := by decide +kernel
theorem pn4 : plainFor (⟨"com/example/chasewell/chasewell/engine/CompiledAtom", "<init>", "(I[I[I)V"⟩ : MethodName) = true := plainFor_of_name (show plainName "com/example/chasewell/chasewell/engine/CompiledAtom" = true by first | (simp [plainName, overriddenIn]; done) | decide +kernel)
theorem pd4 : parseMethodDescriptor "(I[I[I)V" = some ⟨[.int, (.array .int), (.array .int)], none⟩ := by decide +kernel
abbrev W4 (l : Launch) (Z : State) (n0 : Nat) (P : Option Value → Heap → Prop) (G : Prop) (s : State) := Wk l Z ({ frames := 2, cells := 0, slots := 0, locals := 24 } : Room) (⟨"com/example/chasewell/chasewell/engine/CompiledAtom", "<init>", "(I[I[I)V"⟩ : MethodName) prog_4_method_1_code 4 none n0 (Ex s ({ frames := 2, cells := 0, slots := 0, locals := 24 } : Room) n0 P G) s
abbrev Q4 (Z : State) (a : Nat) (r : Int32) (c v0 : Nat) (h0 : Heap) : Option Value → Heap → Prop := fun v h => v = none ∧ Keep h0 h [a] ∧ Exa Z h a "com/example/chasewell/chasewell/engine/CompiledAtom" ∧ Fld Z h a "com/example/chasewell/chasewell/engine/CompiledAtom" "constants" "[I" (.ref c) ∧ Fld Z h a "com/example/chasewell/chasewell/engine/CompiledAtom" "variables" "[I" (.ref v0)
set_option maxRecDepth 65536 in
set_option maxHeartbeats 40000000 in
theorem con4 (l : Launch) (Z : State) (a0 : Array Value) (hw : ∀ d ∈ tables_1, d.before a0 Z = true) (a : Nat) (r : Int32) (c v0 : Nat) (h0 : Heap) (n0 : Nat) (s_h0 : n0 ≤ h0.size) (n_a : n0 ≤ a) (E0 : Exa Z h0 a "com/example/chasewell/chasewell/engine/CompiledAtom") (F1 : Fld Z h0 a "com/example/chasewell/chasewell/engine/CompiledAtom" "relation" "I" (.int 0)) (F2 : Fld Z h0 a "com/example/chasewell/chasewell/engine/CompiledAtom" "constants" "[I" .null) (F3 : Fld Z h0 a "com/example/chasewell/chasewell/engine/CompiledAtom" "variables" "[I" .null) : Con l Z (⟨"com/example/chasewell/chasewell/engine/CompiledAtom", "<init>", "(I[I[I)V"⟩ : MethodName) prog_4_method_1_code 4 none ({ frames := 2, cells := 0, slots := 0, locals := 24 } : Room) #[.ref a, .int r, .ref c, .ref v0] h0 n0 (Q4 Z a r c v0 h0) := by
  refine Con.of pn4 (Ls := #[.val (.ref a), .val (.int r), .val (.ref c), .val (.ref v0)]) (fun m => by first | (simp [entryFrame, mkF, argsToLocals, Value.category]; done) | rfl) ?_
  intro G s k
  have k : W4 l Z n0 (Q4 Z a r c v0 h0) G s h0 0 0 1 #[.val (.ref a), .val (.int r), .val (.ref c), .val (.ref v0)] [(.ref a)] := k.aloadN d4_0 rfl rfl
  obtain ⟨v6, h6, ⟨rfl, rfl⟩, k⟩ := k.callN rfl (hw _ (List.mem_of_getElem? (i := 14) rfl)) (hw _ (List.mem_of_getElem? (i := 15) rfl)) (hw _ (List.mem_of_getElem? (i := 17) rfl)) (hw _ (List.mem_of_getElem? (i := 18) rfl)) (by decide) (con3 l Z a0 hw a h0 n0) (argsL := []) (rest := []) (lenOf pd3 rfl) d4_1 rfl rfl 0 (Nat.le_of_eq rfl) (by decide) (by decide) (by decide) (by decide)
  have k : W4 l Z n0 (Q4 Z a r c v0 h0) G s h0 0 0 4 #[.val (.ref a), .val (.int r), .val (.ref c), .val (.ref v0)] [] := k
  have k : W4 l Z n0 (Q4 Z a r c v0 h0) G s h0 0 0 6 #[.val (.ref a), .val (.int r), .val (.ref c), .val (.ref v0)] [(.int r), (.ref a)] := (k.aloadN d4_4 rfl rfl).iloadN d4_5 rfl
  obtain ⟨h7, W7, K7, F1', E0', k⟩ := k.putF (ty := .int) (hw _ (List.mem_of_getElem? (i := 22) rfl)) F1 E0 (Or.inr ⟨(hw _ (List.mem_of_getElem? (i := 23) rfl)), rfl, rfl⟩) (hw _ (List.mem_of_getElem? (i := 9) rfl)) (by decide) rfl rfl n_a d4_6
  have F2 := Fld.other W7 F2 (Or.inr (slot_ne (C := "com/example/chasewell/chasewell/engine/CompiledAtom") (Or.inr (hw _ (List.mem_of_getElem? (i := 25) rfl))) (Or.inr (hw _ (List.mem_of_getElem? (i := 23) rfl))) (by decide) (t := (.array .int)) (t' := .int) (by decide) (by decide)))
  have F3 := Fld.other W7 F3 (Or.inr (slot_ne (C := "com/example/chasewell/chasewell/engine/CompiledAtom") (Or.inr (hw _ (List.mem_of_getElem? (i := 27) rfl))) (Or.inr (hw _ (List.mem_of_getElem? (i := 23) rfl))) (by decide) (t := (.array .int)) (t' := .int) (by decide) (by decide)))
  have F1 := F1'
  have E0 := E0'
  have s_h7 : n0 ≤ h7.size := Nat.le_trans (by omega) K7.1
  have k : W4 l Z n0 (Q4 Z a r c v0 h0) G s h7 0 0 9 #[.val (.ref a), .val (.int r), .val (.ref c), .val (.ref v0)] [] := k
  have k : W4 l Z n0 (Q4 Z a r c v0 h0) G s h7 0 0 11 #[.val (.ref a), .val (.int r), .val (.ref c), .val (.ref v0)] [(.ref c), (.ref a)] := (k.aloadN d4_9 rfl rfl).aloadN d4_10 rfl rfl
  obtain ⟨h8, W8, K8, F2', E0', k⟩ := k.putF (ty := (.array .int)) (hw _ (List.mem_of_getElem? (i := 24) rfl)) F2 E0 (Or.inr ⟨(hw _ (List.mem_of_getElem? (i := 25) rfl)), rfl, rfl⟩) (hw _ (List.mem_of_getElem? (i := 9) rfl)) (by decide) rfl rfl n_a d4_11
  have F1 := Fld.other W8 F1 (Or.inr (slot_ne (C := "com/example/chasewell/chasewell/engine/CompiledAtom") (Or.inr (hw _ (List.mem_of_getElem? (i := 23) rfl))) (Or.inr (hw _ (List.mem_of_getElem? (i := 25) rfl))) (by decide) (t := .int) (t' := (.array .int)) (by decide) (by decide)))
  have F3 := Fld.other W8 F3 (Or.inr (slot_ne (C := "com/example/chasewell/chasewell/engine/CompiledAtom") (Or.inr (hw _ (List.mem_of_getElem? (i := 27) rfl))) (Or.inr (hw _ (List.mem_of_getElem? (i := 25) rfl))) (by decide) (t := (.array .int)) (t' := (.array .int)) (by decide) (by decide)))
  have F2 := F2'
  have E0 := E0'
  have s_h8 : n0 ≤ h8.size := Nat.le_trans (by omega) K8.1
  have k : W4 l Z n0 (Q4 Z a r c v0 h0) G s h8 0 0 14 #[.val (.ref a), .val (.int r), .val (.ref c), .val (.ref v0)] [] := k
  have k : W4 l Z n0 (Q4 Z a r c v0 h0) G s h8 0 0 16 #[.val (.ref a), .val (.int r), .val (.ref c), .val (.ref v0)] [(.ref v0), (.ref a)] := (k.aloadN d4_14 rfl rfl).aloadN d4_15 rfl rfl
  obtain ⟨h9, W9, K9, F3', E0', k⟩ := k.putF (ty := (.array .int)) (hw _ (List.mem_of_getElem? (i := 26) rfl)) F3 E0 (Or.inr ⟨(hw _ (List.mem_of_getElem? (i := 27) rfl)), rfl, rfl⟩) (hw _ (List.mem_of_getElem? (i := 9) rfl)) (by decide) rfl rfl n_a d4_16
  have F1 := Fld.other W9 F1 (Or.inr (slot_ne (C := "com/example/chasewell/chasewell/engine/CompiledAtom") (Or.inr (hw _ (List.mem_of_getElem? (i := 23) rfl))) (Or.inr (hw _ (List.mem_of_getElem? (i := 27) rfl))) (by decide) (t := .int) (t' := (.array .int)) (by decide) (by decide)))
  have F2 := Fld.other W9 F2 (Or.inr (slot_ne (C := "com/example/chasewell/chasewell/engine/CompiledAtom") (Or.inr (hw _ (List.mem_of_getElem? (i := 25) rfl))) (Or.inr (hw _ (List.mem_of_getElem? (i := 27) rfl))) (by decide) (t := (.array .int)) (t' := (.array .int)) (by decide) (by decide)))
  have F3 := F3'
  have E0 := E0'
  have s_h9 : n0 ≤ h9.size := Nat.le_trans (by omega) K9.1
  have k : W4 l Z n0 (Q4 Z a r c v0 h0) G s h9 0 0 19 #[.val (.ref a), .val (.int r), .val (.ref c), .val (.ref v0)] [] := k
  exact k.outN d4_19 (by decide) (by decide) ⟨rfl, (K7.trans K8 (allS (Or.inl (List.mem_singleton.mpr rfl)) all0)).trans K9 (allS (Or.inl (List.mem_singleton.mpr rfl)) all0), E0, F2, F3⟩
theorem d5_0 : decode prog_4_method_2_code 0 = .ok (.iconst 0, 1) := by decide +kernel
theorem d5_1 : decode prog_4_method_2_code 1 = .ok (.istore_n 3, 1) := by decide +kernel
theorem d5_2 : decode prog_4_method_2_code 2 = .ok (.iload_n 3, 1) := by decide +kernel
theorem d5_3 : decode prog_4_method_2_code 3 = .ok (.aload_n 0, 1) := by decide +kernel
theorem d5_4 : decode prog_4_method_2_code 4 = .ok (.getfield 17, 3) := by decide +kernel
theorem d5_7 : decode prog_4_method_2_code 7 = .ok (.arraylength, 1) := by decide +kernel
theorem d5_8 : decode prog_4_method_2_code 8 = .ok (.if_icmp .ge 38, 3) := by decide +kernel
theorem d5_11 : decode prog_4_method_2_code 11 = .ok (.aload_n 2, 1) := by decide +kernel
theorem d5_12 : decode prog_4_method_2_code 12 = .ok (.iload_n 3, 1) := by decide +kernel
theorem d5_13 : decode prog_4_method_2_code 13 = .ok (.aload_n 0, 1) := by decide +kernel
theorem d5_14 : decode prog_4_method_2_code 14 = .ok (.getfield 17, 3) := by decide +kernel
theorem d5_17 : decode prog_4_method_2_code 17 = .ok (.iload_n 3, 1) := by decide +kernel
theorem d5_18 : decode prog_4_method_2_code 18 = .ok (.iaload, 1) := by decide +kernel
theorem d5_19 : decode prog_4_method_2_code 19 = .ok (.ifCond .ge 12, 3) := by decide +kernel
theorem d5_22 : decode prog_4_method_2_code 22 = .ok (.aload_n 0, 1) := by decide +kernel
theorem d5_23 : decode prog_4_method_2_code 23 = .ok (.getfield 13, 3) := by decide +kernel
theorem d5_26 : decode prog_4_method_2_code 26 = .ok (.iload_n 3, 1) := by decide +kernel
theorem d5_27 : decode prog_4_method_2_code 27 = .ok (.iaload, 1) := by decide +kernel
theorem d5_28 : decode prog_4_method_2_code 28 = .ok (.goto 11, 3) := by decide +kernel
theorem d5_31 : decode prog_4_method_2_code 31 = .ok (.aload_n 1, 1) := by decide +kernel
theorem d5_32 : decode prog_4_method_2_code 32 = .ok (.aload_n 0, 1) := by decide +kernel
theorem d5_33 : decode prog_4_method_2_code 33 = .ok (.getfield 17, 3) := by decide +kernel
theorem d5_36 : decode prog_4_method_2_code 36 = .ok (.iload_n 3, 1) := by decide +kernel
theorem d5_37 : decode prog_4_method_2_code 37 = .ok (.iaload, 1) := by decide +kernel
theorem d5_38 : decode prog_4_method_2_code 38 = .ok (.iaload, 1) := by decide +kernel
theorem d5_39 : decode prog_4_method_2_code 39 = .ok (.iastore, 1) := by decide +kernel
theorem d5_40 : decode prog_4_method_2_code 40 = .ok (.iinc 3 1, 3) := by decide +kernel
theorem d5_43 : decode prog_4_method_2_code 43 = .ok (.goto (-41), 3) := by decide +kernel
theorem d5_46 : decode prog_4_method_2_code 46 = .ok (.aload_n 2, 1) := by decide +kernel
theorem d5_47 : decode prog_4_method_2_code 47 = .ok (.areturn, 1) := by decide +kernel
theorem pn5 : plainFor (⟨"com/example/chasewell/chasewell/engine/CompiledAtom", "instantiate", "([I[I)[I"⟩ : MethodName) = true := plainFor_of_name (show plainName "com/example/chasewell/chasewell/engine/CompiledAtom" = true by first | (simp [plainName, overriddenIn]; done) | decide +kernel)
theorem pd5 : parseMethodDescriptor "([I[I)[I" = some ⟨[(.array .int), (.array .int)], some (.array .int)⟩ := by decide +kernel
abbrev W5 (l : Launch) (Z : State) (n0 : Nat) (P : Option Value → Heap → Prop) (G : Prop) (s : State) := Wk l Z ({ frames := 0, cells := 0, slots := 0, locals := 0 } : Room) (⟨"com/example/chasewell/chasewell/engine/CompiledAtom", "instantiate", "([I[I)[I"⟩ : MethodName) prog_4_method_2_code 4 (some (.array .int)) n0 (Ex s ({ frames := 0, cells := 0, slots := 0, locals := 0 } : Room) n0 P G) s
abbrev Q5 (Z : State) (t : Nat) (e0 e1 e2 md : Int32) (h0 : Heap) : Option Value → Heap → Prop := fun v h => v = some (.ref t) ∧ Keep h0 h [t] ∧ AV Z h t .int [.int e0, .int e1, .int e2, .int md]
set_option maxRecDepth 65536 in
set_option maxHeartbeats 40000000 in
theorem con5 (l : Launch) (Z : State) (a0 : Array Value) (hw : ∀ d ∈ tables_1, d.before a0 Z = true) (a vl t cs vr : Nat) (k0 k1 k2 x0 y0 md v0 v1 v2 e0 e1 e2 : Int32) (h0 : Heap) (n0 : Nat) (s_h0 : n0 ≤ h0.size) (n_t : n0 ≤ t) (F2 : Fld Z h0 a "com/example/chasewell/chasewell/engine/CompiledAtom" "constants" "[I" (.ref cs)) (F3 : Fld Z h0 a "com/example/chasewell/chasewell/engine/CompiledAtom" "variables" "[I" (.ref vr)) (A1 : AV Z h0 cs .int [.int k0, .int k1, .int k2]) (A2 : AV Z h0 vr .int [.int v0, .int v1, .int v2]) (A3 : AV Z h0 vl .int [.int x0, .int y0, .int (x0 ^^^ (-1 : Int32)), .int (y0 ^^^ (-1 : Int32))]) (A4 : AV Z h0 t .int [.int md, .int md, .int md, .int md]) (o1 : a ≠ t) (o2 : cs ≠ t) (o3 : vr ≠ t) (o4 : vl ≠ t) (r0 : RL v0 e0 k0 x0 y0) (r1 : RL v1 e1 k1 x0 y0) (r2 : RL v2 e2 k2 x0 y0) : Con l Z (⟨"com/example/chasewell/chasewell/engine/CompiledAtom", "instantiate", "([I[I)[I"⟩ : MethodName) prog_4_method_2_code 4 (some (.array .int)) ({ frames := 0, cells := 0, slots := 0, locals := 0 } : Room) #[.ref a, .ref vl, .ref t] h0 n0 (Q5 Z t e0 e1 e2 md h0) := by
  refine Con.of pn5 (Ls := #[.val (.ref a), .val (.ref vl), .val (.ref t), .unset]) (fun m => by first | (simp [entryFrame, mkF, argsToLocals, Value.category]; done) | rfl) ?_
  intro G s k
  have k : W5 l Z n0 (Q5 Z t e0 e1 e2 md h0) G s h0 0 0 8 #[.val (.ref a), .val (.ref vl), .val (.ref t), .val (.int (0 : Int32))] [(.int (3 : Int32)), (.int (0 : Int32))] := (((((k.iconst (0) d5_0 rfl).istoreN d5_1 (Ls' := #[.val (.ref a), .val (.ref vl), .val (.ref t), .val (.int (0 : Int32))]) rfl).iloadN d5_2 rfl).aloadN d5_3 rfl rfl).getF (hw _ (List.mem_of_getElem? (i := 26) rfl)) F3 d5_4).len (n := 3) A2 rfl d5_7
  have k : W5 l Z n0 (Q5 Z t e0 e1 e2 md h0) G s h0 0 0 11 #[.val (.ref a), .val (.ref vl), .val (.ref t), .val (.int (0 : Int32))] [] := k.icF d5_8 (XT.ii_ge_f (by decide))
  have k : W5 l Z n0 (Q5 Z t e0 e1 e2 md h0) G s h0 0 0 19 #[.val (.ref a), .val (.ref vl), .val (.ref t), .val (.int (0 : Int32))] [(.int v0), (.int (0 : Int32)), (.ref t)] := (((((k.aloadN d5_11 rfl rfl).iloadN d5_12 rfl).aloadN d5_13 rfl rfl).getF (hw _ (List.mem_of_getElem? (i := 26) rfl)) F3 d5_14).iloadN d5_17 rfl).ldI A2 (by decide) rfl d5_18
  have k : W5 l Z n0 (Q5 Z t e0 e1 e2 md h0) G s h0 0 0 39 #[.val (.ref a), .val (.ref vl), .val (.ref t), .val (.int (0 : Int32))] [(.int e0), (.int (0 : Int32)), (.ref t)] := by
    rcases r0 with ⟨rfl, q⟩ | ⟨rfl, q⟩ | ⟨rfl, q⟩ | ⟨rfl, q⟩ | ⟨rfl, q⟩
    · have k : W5 l Z n0 (Q5 Z t e0 e1 e2 md h0) G s h0 0 0 19 #[.val (.ref a), .val (.ref vl), .val (.ref t), .val (.int (0 : Int32))] [(.int (-1 : Int32)), (.int (0 : Int32)), (.ref t)] := k
      have k : W5 l Z n0 (Q5 Z t e0 e1 e2 md h0) G s h0 0 0 22 #[.val (.ref a), .val (.ref vl), .val (.ref t), .val (.int (0 : Int32))] [(.int (0 : Int32)), (.ref t)] := k.ifF d5_19 (XT.i0_ge_f (by decide))
      have k : W5 l Z n0 (Q5 Z t e0 e1 e2 md h0) G s h0 0 0 39 #[.val (.ref a), .val (.ref vl), .val (.ref t), .val (.int (0 : Int32))] [(.int k0), (.int (0 : Int32)), (.ref t)] := ((((k.aloadN d5_22 rfl rfl).getF (hw _ (List.mem_of_getElem? (i := 24) rfl)) F2 d5_23).iloadN d5_26 rfl).ldI A1 (by decide) rfl d5_27).goto (pc' := 39) d5_28 (by decide)
      subst q; exact k
    · have k : W5 l Z n0 (Q5 Z t e0 e1 e2 md h0) G s h0 0 0 19 #[.val (.ref a), .val (.ref vl), .val (.ref t), .val (.int (0 : Int32))] [(.int (0 : Int32)), (.int (0 : Int32)), (.ref t)] := k
      have k : W5 l Z n0 (Q5 Z t e0 e1 e2 md h0) G s h0 0 0 31 #[.val (.ref a), .val (.ref vl), .val (.ref t), .val (.int (0 : Int32))] [(.int (0 : Int32)), (.ref t)] := k.ifT (pc' := 31) d5_19 (XT.i0_ge_t (by decide)) (by decide)
      have k : W5 l Z n0 (Q5 Z t e0 e1 e2 md h0) G s h0 0 0 39 #[.val (.ref a), .val (.ref vl), .val (.ref t), .val (.int (0 : Int32))] [(.int x0), (.int (0 : Int32)), (.ref t)] := (((((k.aloadN d5_31 rfl rfl).aloadN d5_32 rfl rfl).getF (hw _ (List.mem_of_getElem? (i := 26) rfl)) F3 d5_33).iloadN d5_36 rfl).ldI A2 (by decide) rfl d5_37).ldI A3 (by decide) rfl d5_38
      subst q; exact k
    · have k : W5 l Z n0 (Q5 Z t e0 e1 e2 md h0) G s h0 0 0 19 #[.val (.ref a), .val (.ref vl), .val (.ref t), .val (.int (0 : Int32))] [(.int (1 : Int32)), (.int (0 : Int32)), (.ref t)] := k
      have k : W5 l Z n0 (Q5 Z t e0 e1 e2 md h0) G s h0 0 0 31 #[.val (.ref a), .val (.ref vl), .val (.ref t), .val (.int (0 : Int32))] [(.int (0 : Int32)), (.ref t)] := k.ifT (pc' := 31) d5_19 (XT.i0_ge_t (by decide)) (by decide)
      have k : W5 l Z n0 (Q5 Z t e0 e1 e2 md h0) G s h0 0 0 39 #[.val (.ref a), .val (.ref vl), .val (.ref t), .val (.int (0 : Int32))] [(.int y0), (.int (0 : Int32)), (.ref t)] := (((((k.aloadN d5_31 rfl rfl).aloadN d5_32 rfl rfl).getF (hw _ (List.mem_of_getElem? (i := 26) rfl)) F3 d5_33).iloadN d5_36 rfl).ldI A2 (by decide) rfl d5_37).ldI A3 (by decide) rfl d5_38
      subst q; exact k
    · have k : W5 l Z n0 (Q5 Z t e0 e1 e2 md h0) G s h0 0 0 19 #[.val (.ref a), .val (.ref vl), .val (.ref t), .val (.int (0 : Int32))] [(.int (2 : Int32)), (.int (0 : Int32)), (.ref t)] := k
      have k : W5 l Z n0 (Q5 Z t e0 e1 e2 md h0) G s h0 0 0 31 #[.val (.ref a), .val (.ref vl), .val (.ref t), .val (.int (0 : Int32))] [(.int (0 : Int32)), (.ref t)] := k.ifT (pc' := 31) d5_19 (XT.i0_ge_t (by decide)) (by decide)
      have k : W5 l Z n0 (Q5 Z t e0 e1 e2 md h0) G s h0 0 0 39 #[.val (.ref a), .val (.ref vl), .val (.ref t), .val (.int (0 : Int32))] [(.int (x0 ^^^ (-1 : Int32))), (.int (0 : Int32)), (.ref t)] := (((((k.aloadN d5_31 rfl rfl).aloadN d5_32 rfl rfl).getF (hw _ (List.mem_of_getElem? (i := 26) rfl)) F3 d5_33).iloadN d5_36 rfl).ldI A2 (by decide) rfl d5_37).ldI A3 (by decide) rfl d5_38
      subst q; exact k
    · have k : W5 l Z n0 (Q5 Z t e0 e1 e2 md h0) G s h0 0 0 19 #[.val (.ref a), .val (.ref vl), .val (.ref t), .val (.int (0 : Int32))] [(.int (3 : Int32)), (.int (0 : Int32)), (.ref t)] := k
      have k : W5 l Z n0 (Q5 Z t e0 e1 e2 md h0) G s h0 0 0 31 #[.val (.ref a), .val (.ref vl), .val (.ref t), .val (.int (0 : Int32))] [(.int (0 : Int32)), (.ref t)] := k.ifT (pc' := 31) d5_19 (XT.i0_ge_t (by decide)) (by decide)
      have k : W5 l Z n0 (Q5 Z t e0 e1 e2 md h0) G s h0 0 0 39 #[.val (.ref a), .val (.ref vl), .val (.ref t), .val (.int (0 : Int32))] [(.int (y0 ^^^ (-1 : Int32))), (.int (0 : Int32)), (.ref t)] := (((((k.aloadN d5_31 rfl rfl).aloadN d5_32 rfl rfl).getF (hw _ (List.mem_of_getElem? (i := 26) rfl)) F3 d5_33).iloadN d5_36 rfl).ldI A2 (by decide) rfl d5_37).ldI A3 (by decide) rfl d5_38
      subst q; exact k
  obtain ⟨h10, K10, A4', k⟩ := k.stI A4 0 rfl (by decide) (by simp) n_t d5_39
  have F2 := F2.keep K10 (nS (by omega) nin0)
  have F3 := F3.keep K10 (nS (by omega) nin0)
  have A1 := A1.keep K10 (nS (by omega) nin0)
  have A2 := A2.keep K10 (nS (by omega) nin0)
  have A3 := A3.keep K10 (nS (by omega) nin0)
  have A4 : AV Z h10 t .int [(.int e0), (.int md), (.int md), (.int md)] := A4'
  have s_h10 : n0 ≤ h10.size := Nat.le_trans (by omega) K10.1
  have k : W5 l Z n0 (Q5 Z t e0 e1 e2 md h0) G s h10 0 0 40 #[.val (.ref a), .val (.ref vl), .val (.ref t), .val (.int (0 : Int32))] [] := k
  have k : W5 l Z n0 (Q5 Z t e0 e1 e2 md h0) G s h10 0 0 43 #[.val (.ref a), .val (.ref vl), .val (.ref t), .val (.int ((0 : Int32) + (1 : Int32)))] [] := k.iinc (Ls' := #[.val (.ref a), .val (.ref vl), .val (.ref t), .val (.int ((0 : Int32) + (1 : Int32)))]) (1) d5_40 rfl rfl rfl
  rw [show ((0 : Int32) + (1 : Int32) : Int32) = (1 : Int32) from by decide] at k
  have k : W5 l Z n0 (Q5 Z t e0 e1 e2 md h0) G s h10 0 0 2 #[.val (.ref a), .val (.ref vl), .val (.ref t), .val (.int (1 : Int32))] [] := k.goto (pc' := 2) d5_43 (by decide)
  have k : W5 l Z n0 (Q5 Z t e0 e1 e2 md h0) G s h10 0 0 11 #[.val (.ref a), .val (.ref vl), .val (.ref t), .val (.int (1 : Int32))] [] := ((((k.iloadN d5_2 rfl).aloadN d5_3 rfl rfl).getF (hw _ (List.mem_of_getElem? (i := 26) rfl)) F3 d5_4).len (n := 3) A2 rfl d5_7).icF d5_8 (XT.ii_ge_f (by decide))
  have k : W5 l Z n0 (Q5 Z t e0 e1 e2 md h0) G s h10 0 0 19 #[.val (.ref a), .val (.ref vl), .val (.ref t), .val (.int (1 : Int32))] [(.int v1), (.int (1 : Int32)), (.ref t)] := (((((k.aloadN d5_11 rfl rfl).iloadN d5_12 rfl).aloadN d5_13 rfl rfl).getF (hw _ (List.mem_of_getElem? (i := 26) rfl)) F3 d5_14).iloadN d5_17 rfl).ldI A2 (by decide) rfl d5_18
  have k : W5 l Z n0 (Q5 Z t e0 e1 e2 md h0) G s h10 0 0 39 #[.val (.ref a), .val (.ref vl), .val (.ref t), .val (.int (1 : Int32))] [(.int e1), (.int (1 : Int32)), (.ref t)] := by
    rcases r1 with ⟨rfl, q⟩ | ⟨rfl, q⟩ | ⟨rfl, q⟩ | ⟨rfl, q⟩ | ⟨rfl, q⟩
    · have k : W5 l Z n0 (Q5 Z t e0 e1 e2 md h0) G s h10 0 0 19 #[.val (.ref a), .val (.ref vl), .val (.ref t), .val (.int (1 : Int32))] [(.int (-1 : Int32)), (.int (1 : Int32)), (.ref t)] := k
      have k : W5 l Z n0 (Q5 Z t e0 e1 e2 md h0) G s h10 0 0 22 #[.val (.ref a), .val (.ref vl), .val (.ref t), .val (.int (1 : Int32))] [(.int (1 : Int32)), (.ref t)] := k.ifF d5_19 (XT.i0_ge_f (by decide))
      have k : W5 l Z n0 (Q5 Z t e0 e1 e2 md h0) G s h10 0 0 39 #[.val (.ref a), .val (.ref vl), .val (.ref t), .val (.int (1 : Int32))] [(.int k1), (.int (1 : Int32)), (.ref t)] := ((((k.aloadN d5_22 rfl rfl).getF (hw _ (List.mem_of_getElem? (i := 24) rfl)) F2 d5_23).iloadN d5_26 rfl).ldI A1 (by decide) rfl d5_27).goto (pc' := 39) d5_28 (by decide)
      subst q; exact k
    · have k : W5 l Z n0 (Q5 Z t e0 e1 e2 md h0) G s h10 0 0 19 #[.val (.ref a), .val (.ref vl), .val (.ref t), .val (.int (1 : Int32))] [(.int (0 : Int32)), (.int (1 : Int32)), (.ref t)] := k
      have k : W5 l Z n0 (Q5 Z t e0 e1 e2 md h0) G s h10 0 0 31 #[.val (.ref a), .val (.ref vl), .val (.ref t), .val (.int (1 : Int32))] [(.int (1 : Int32)), (.ref t)] := k.ifT (pc' := 31) d5_19 (XT.i0_ge_t (by decide)) (by decide)
      have k : W5 l Z n0 (Q5 Z t e0 e1 e2 md h0) G s h10 0 0 39 #[.val (.ref a), .val (.ref vl), .val (.ref t), .val (.int (1 : Int32))] [(.int x0), (.int (1 : Int32)), (.ref t)] := (((((k.aloadN d5_31 rfl rfl).aloadN d5_32 rfl rfl).getF (hw _ (List.mem_of_getElem? (i := 26) rfl)) F3 d5_33).iloadN d5_36 rfl).ldI A2 (by decide) rfl d5_37).ldI A3 (by decide) rfl d5_38
      subst q; exact k
    · have k : W5 l Z n0 (Q5 Z t e0 e1 e2 md h0) G s h10 0 0 19 #[.val (.ref a), .val (.ref vl), .val (.ref t), .val (.int (1 : Int32))] [(.int (1 : Int32)), (.int (1 : Int32)), (.ref t)] := k
      have k : W5 l Z n0 (Q5 Z t e0 e1 e2 md h0) G s h10 0 0 31 #[.val (.ref a), .val (.ref vl), .val (.ref t), .val (.int (1 : Int32))] [(.int (1 : Int32)), (.ref t)] := k.ifT (pc' := 31) d5_19 (XT.i0_ge_t (by decide)) (by decide)
      have k : W5 l Z n0 (Q5 Z t e0 e1 e2 md h0) G s h10 0 0 39 #[.val (.ref a), .val (.ref vl), .val (.ref t), .val (.int (1 : Int32))] [(.int y0), (.int (1 : Int32)), (.ref t)] := (((((k.aloadN d5_31 rfl rfl).aloadN d5_32 rfl rfl).getF (hw _ (List.mem_of_getElem? (i := 26) rfl)) F3 d5_33).iloadN d5_36 rfl).ldI A2 (by decide) rfl d5_37).ldI A3 (by decide) rfl d5_38
      subst q; exact k
    · have k : W5 l Z n0 (Q5 Z t e0 e1 e2 md h0) G s h10 0 0 19 #[.val (.ref a), .val (.ref vl), .val (.ref t), .val (.int (1 : Int32))] [(.int (2 : Int32)), (.int (1 : Int32)), (.ref t)] := k
      have k : W5 l Z n0 (Q5 Z t e0 e1 e2 md h0) G s h10 0 0 31 #[.val (.ref a), .val (.ref vl), .val (.ref t), .val (.int (1 : Int32))] [(.int (1 : Int32)), (.ref t)] := k.ifT (pc' := 31) d5_19 (XT.i0_ge_t (by decide)) (by decide)
      have k : W5 l Z n0 (Q5 Z t e0 e1 e2 md h0) G s h10 0 0 39 #[.val (.ref a), .val (.ref vl), .val (.ref t), .val (.int (1 : Int32))] [(.int (x0 ^^^ (-1 : Int32))), (.int (1 : Int32)), (.ref t)] := (((((k.aloadN d5_31 rfl rfl).aloadN d5_32 rfl rfl).getF (hw _ (List.mem_of_getElem? (i := 26) rfl)) F3 d5_33).iloadN d5_36 rfl).ldI A2 (by decide) rfl d5_37).ldI A3 (by decide) rfl d5_38
      subst q; exact k
    · have k : W5 l Z n0 (Q5 Z t e0 e1 e2 md h0) G s h10 0 0 19 #[.val (.ref a), .val (.ref vl), .val (.ref t), .val (.int (1 : Int32))] [(.int (3 : Int32)), (.int (1 : Int32)), (.ref t)] := k
      have k : W5 l Z n0 (Q5 Z t e0 e1 e2 md h0) G s h10 0 0 31 #[.val (.ref a), .val (.ref vl), .val (.ref t), .val (.int (1 : Int32))] [(.int (1 : Int32)), (.ref t)] := k.ifT (pc' := 31) d5_19 (XT.i0_ge_t (by decide)) (by decide)
      have k : W5 l Z n0 (Q5 Z t e0 e1 e2 md h0) G s h10 0 0 39 #[.val (.ref a), .val (.ref vl), .val (.ref t), .val (.int (1 : Int32))] [(.int (y0 ^^^ (-1 : Int32))), (.int (1 : Int32)), (.ref t)] := (((((k.aloadN d5_31 rfl rfl).aloadN d5_32 rfl rfl).getF (hw _ (List.mem_of_getElem? (i := 26) rfl)) F3 d5_33).iloadN d5_36 rfl).ldI A2 (by decide) rfl d5_37).ldI A3 (by decide) rfl d5_38
      subst q; exact k
  obtain ⟨h11, K11, A4', k⟩ := k.stI A4 1 rfl (by decide) (by simp) n_t d5_39
  have F2 := F2.keep K11 (nS (by omega) nin0)
  have F3 := F3.keep K11 (nS (by omega) nin0)
  have A1 := A1.keep K11 (nS (by omega) nin0)
  have A2 := A2.keep K11 (nS (by omega) nin0)
  have A3 := A3.keep K11 (nS (by omega) nin0)
  have A4 : AV Z h11 t .int [(.int e0), (.int e1), (.int md), (.int md)] := A4'
  have s_h11 : n0 ≤ h11.size := Nat.le_trans (by omega) K11.1
  have k : W5 l Z n0 (Q5 Z t e0 e1 e2 md h0) G s h11 0 0 40 #[.val (.ref a), .val (.ref vl), .val (.ref t), .val (.int (1 : Int32))] [] := k
  have k : W5 l Z n0 (Q5 Z t e0 e1 e2 md h0) G s h11 0 0 43 #[.val (.ref a), .val (.ref vl), .val (.ref t), .val (.int ((1 : Int32) + (1 : Int32)))] [] := k.iinc (Ls' := #[.val (.ref a), .val (.ref vl), .val (.ref t), .val (.int ((1 : Int32) + (1 : Int32)))]) (1) d5_40 rfl rfl rfl
  rw [show ((1 : Int32) + (1 : Int32) : Int32) = (2 : Int32) from by decide] at k
  have k : W5 l Z n0 (Q5 Z t e0 e1 e2 md h0) G s h11 0 0 2 #[.val (.ref a), .val (.ref vl), .val (.ref t), .val (.int (2 : Int32))] [] := k.goto (pc' := 2) d5_43 (by decide)
  have k : W5 l Z n0 (Q5 Z t e0 e1 e2 md h0) G s h11 0 0 11 #[.val (.ref a), .val (.ref vl), .val (.ref t), .val (.int (2 : Int32))] [] := ((((k.iloadN d5_2 rfl).aloadN d5_3 rfl rfl).getF (hw _ (List.mem_of_getElem? (i := 26) rfl)) F3 d5_4).len (n := 3) A2 rfl d5_7).icF d5_8 (XT.ii_ge_f (by decide))
  have k : W5 l Z n0 (Q5 Z t e0 e1 e2 md h0) G s h11 0 0 19 #[.val (.ref a), .val (.ref vl), .val (.ref t), .val (.int (2 : Int32))] [(.int v2), (.int (2 : Int32)), (.ref t)] := (((((k.aloadN d5_11 rfl rfl).iloadN d5_12 rfl).aloadN d5_13 rfl rfl).getF (hw _ (List.mem_of_getElem? (i := 26) rfl)) F3 d5_14).iloadN d5_17 rfl).ldI A2 (by decide) rfl d5_18
  have k : W5 l Z n0 (Q5 Z t e0 e1 e2 md h0) G s h11 0 0 39 #[.val (.ref a), .val (.ref vl), .val (.ref t), .val (.int (2 : Int32))] [(.int e2), (.int (2 : Int32)), (.ref t)] := by
    rcases r2 with ⟨rfl, q⟩ | ⟨rfl, q⟩ | ⟨rfl, q⟩ | ⟨rfl, q⟩ | ⟨rfl, q⟩
    · have k : W5 l Z n0 (Q5 Z t e0 e1 e2 md h0) G s h11 0 0 19 #[.val (.ref a), .val (.ref vl), .val (.ref t), .val (.int (2 : Int32))] [(.int (-1 : Int32)), (.int (2 : Int32)), (.ref t)] := k
      have k : W5 l Z n0 (Q5 Z t e0 e1 e2 md h0) G s h11 0 0 22 #[.val (.ref a), .val (.ref vl), .val (.ref t), .val (.int (2 : Int32))] [(.int (2 : Int32)), (.ref t)] := k.ifF d5_19 (XT.i0_ge_f (by decide))
      have k : W5 l Z n0 (Q5 Z t e0 e1 e2 md h0) G s h11 0 0 39 #[.val (.ref a), .val (.ref vl), .val (.ref t), .val (.int (2 : Int32))] [(.int k2), (.int (2 : Int32)), (.ref t)] := ((((k.aloadN d5_22 rfl rfl).getF (hw _ (List.mem_of_getElem? (i := 24) rfl)) F2 d5_23).iloadN d5_26 rfl).ldI A1 (by decide) rfl d5_27).goto (pc' := 39) d5_28 (by decide)
      subst q; exact k
    · have k : W5 l Z n0 (Q5 Z t e0 e1 e2 md h0) G s h11 0 0 19 #[.val (.ref a), .val (.ref vl), .val (.ref t), .val (.int (2 : Int32))] [(.int (0 : Int32)), (.int (2 : Int32)), (.ref t)] := k
      have k : W5 l Z n0 (Q5 Z t e0 e1 e2 md h0) G s h11 0 0 31 #[.val (.ref a), .val (.ref vl), .val (.ref t), .val (.int (2 : Int32))] [(.int (2 : Int32)), (.ref t)] := k.ifT (pc' := 31) d5_19 (XT.i0_ge_t (by decide)) (by decide)
      have k : W5 l Z n0 (Q5 Z t e0 e1 e2 md h0) G s h11 0 0 39 #[.val (.ref a), .val (.ref vl), .val (.ref t), .val (.int (2 : Int32))] [(.int x0), (.int (2 : Int32)), (.ref t)] := (((((k.aloadN d5_31 rfl rfl).aloadN d5_32 rfl rfl).getF (hw _ (List.mem_of_getElem? (i := 26) rfl)) F3 d5_33).iloadN d5_36 rfl).ldI A2 (by decide) rfl d5_37).ldI A3 (by decide) rfl d5_38
      subst q; exact k
    · have k : W5 l Z n0 (Q5 Z t e0 e1 e2 md h0) G s h11 0 0 19 #[.val (.ref a), .val (.ref vl), .val (.ref t), .val (.int (2 : Int32))] [(.int (1 : Int32)), (.int (2 : Int32)), (.ref t)] := k
      have k : W5 l Z n0 (Q5 Z t e0 e1 e2 md h0) G s h11 0 0 31 #[.val (.ref a), .val (.ref vl), .val (.ref t), .val (.int (2 : Int32))] [(.int (2 : Int32)), (.ref t)] := k.ifT (pc' := 31) d5_19 (XT.i0_ge_t (by decide)) (by decide)
      have k : W5 l Z n0 (Q5 Z t e0 e1 e2 md h0) G s h11 0 0 39 #[.val (.ref a), .val (.ref vl), .val (.ref t), .val (.int (2 : Int32))] [(.int y0), (.int (2 : Int32)), (.ref t)] := (((((k.aloadN d5_31 rfl rfl).aloadN d5_32 rfl rfl).getF (hw _ (List.mem_of_getElem? (i := 26) rfl)) F3 d5_33).iloadN d5_36 rfl).ldI A2 (by decide) rfl d5_37).ldI A3 (by decide) rfl d5_38
      subst q; exact k
    · have k : W5 l Z n0 (Q5 Z t e0 e1 e2 md h0) G s h11 0 0 19 #[.val (.ref a), .val (.ref vl), .val (.ref t), .val (.int (2 : Int32))] [(.int (2 : Int32)), (.int (2 : Int32)), (.ref t)] := k
      have k : W5 l Z n0 (Q5 Z t e0 e1 e2 md h0) G s h11 0 0 31 #[.val (.ref a), .val (.ref vl), .val (.ref t), .val (.int (2 : Int32))] [(.int (2 : Int32)), (.ref t)] := k.ifT (pc' := 31) d5_19 (XT.i0_ge_t (by decide)) (by decide)
      have k : W5 l Z n0 (Q5 Z t e0 e1 e2 md h0) G s h11 0 0 39 #[.val (.ref a), .val (.ref vl), .val (.ref t), .val (.int (2 : Int32))] [(.int (x0 ^^^ (-1 : Int32))), (.int (2 : Int32)), (.ref t)] := (((((k.aloadN d5_31 rfl rfl).aloadN d5_32 rfl rfl).getF (hw _ (List.mem_of_getElem? (i := 26) rfl)) F3 d5_33).iloadN d5_36 rfl).ldI A2 (by decide) rfl d5_37).ldI A3 (by decide) rfl d5_38
      subst q; exact k
    · have k : W5 l Z n0 (Q5 Z t e0 e1 e2 md h0) G s h11 0 0 19 #[.val (.ref a), .val (.ref vl), .val (.ref t), .val (.int (2 : Int32))] [(.int (3 : Int32)), (.int (2 : Int32)), (.ref t)] := k
      have k : W5 l Z n0 (Q5 Z t e0 e1 e2 md h0) G s h11 0 0 31 #[.val (.ref a), .val (.ref vl), .val (.ref t), .val (.int (2 : Int32))] [(.int (2 : Int32)), (.ref t)] := k.ifT (pc' := 31) d5_19 (XT.i0_ge_t (by decide)) (by decide)
      have k : W5 l Z n0 (Q5 Z t e0 e1 e2 md h0) G s h11 0 0 39 #[.val (.ref a), .val (.ref vl), .val (.ref t), .val (.int (2 : Int32))] [(.int (y0 ^^^ (-1 : Int32))), (.int (2 : Int32)), (.ref t)] := (((((k.aloadN d5_31 rfl rfl).aloadN d5_32 rfl rfl).getF (hw _ (List.mem_of_getElem? (i := 26) rfl)) F3 d5_33).iloadN d5_36 rfl).ldI A2 (by decide) rfl d5_37).ldI A3 (by decide) rfl d5_38
      subst q; exact k
  obtain ⟨h12, K12, A4', k⟩ := k.stI A4 2 rfl (by decide) (by simp) n_t d5_39
  have F2 := F2.keep K12 (nS (by omega) nin0)
  have F3 := F3.keep K12 (nS (by omega) nin0)
  have A1 := A1.keep K12 (nS (by omega) nin0)
  have A2 := A2.keep K12 (nS (by omega) nin0)
  have A3 := A3.keep K12 (nS (by omega) nin0)
  have A4 : AV Z h12 t .int [(.int e0), (.int e1), (.int e2), (.int md)] := A4'
  have s_h12 : n0 ≤ h12.size := Nat.le_trans (by omega) K12.1
  have k : W5 l Z n0 (Q5 Z t e0 e1 e2 md h0) G s h12 0 0 40 #[.val (.ref a), .val (.ref vl), .val (.ref t), .val (.int (2 : Int32))] [] := k
  have k : W5 l Z n0 (Q5 Z t e0 e1 e2 md h0) G s h12 0 0 43 #[.val (.ref a), .val (.ref vl), .val (.ref t), .val (.int ((2 : Int32) + (1 : Int32)))] [] := k.iinc (Ls' := #[.val (.ref a), .val (.ref vl), .val (.ref t), .val (.int ((2 : Int32) + (1 : Int32)))]) (1) d5_40 rfl rfl rfl
  rw [show ((2 : Int32) + (1 : Int32) : Int32) = (3 : Int32) from by decide] at k
  have k : W5 l Z n0 (Q5 Z t e0 e1 e2 md h0) G s h12 0 0 2 #[.val (.ref a), .val (.ref vl), .val (.ref t), .val (.int (3 : Int32))] [] := k.goto (pc' := 2) d5_43 (by decide)
  have k : W5 l Z n0 (Q5 Z t e0 e1 e2 md h0) G s h12 0 0 46 #[.val (.ref a), .val (.ref vl), .val (.ref t), .val (.int (3 : Int32))] [] := ((((k.iloadN d5_2 rfl).aloadN d5_3 rfl rfl).getF (hw _ (List.mem_of_getElem? (i := 26) rfl)) F3 d5_4).len (n := 3) A2 rfl d5_7).icT (pc' := 46) d5_8 (XT.ii_ge_t (by decide)) (by decide)
  have k : W5 l Z n0 (Q5 Z t e0 e1 e2 md h0) G s h12 0 0 47 #[.val (.ref a), .val (.ref vl), .val (.ref t), .val (.int (3 : Int32))] [(.ref t)] := k.aloadN d5_46 rfl rfl
  exact k.outA rfl rfl d5_47 (by decide) (by decide) ⟨rfl, (K10.trans K11 (allS (Or.inl (List.mem_singleton.mpr rfl)) all0)).trans K12 (allS (Or.inl (List.mem_singleton.mpr rfl)) all0), A4⟩
theorem pn0 : plainFor x = true := plainFor_of_name (show plainName "com/example/chasewell/chasewell/engine/CompiledAtomInstantiatePinLaw" = true by first | (simp [plainName, overriddenIn]; done) | decide +kernel)
abbrev W0 (l : Launch) (Z : State) (n0 : Nat) (P : Option Value → Heap → Prop) (G : Prop) (s : State) := Wk l Z room_1 x code maxLocals ret n0 (Ex s room_1 n0 P G) s
abbrev Q0 : Option Value → Heap → Prop := fun v h => v = some (.int 1)
set_option maxRecDepth 65536 in
set_option maxHeartbeats 40000000 in
theorem con0 (l : Launch) (Z : State) (a0 : Array Value) (hw : ∀ d ∈ tables_1, d.before a0 Z = true) (p0 p1 p2 p3 p4 p5 : Int32) (h0 : Heap) (n0 : Nat) (Z0 : n0 ≤ h0.size) : Con l Z x code maxLocals ret room_1 #[.int p0, .int p1, .int p2, .int p3, .int p4, .int p5] h0 n0 Q0 := by
  refine Con.of pn0 (Ls := #[.val (.int p0), .val (.int p1), .val (.int p2), .val (.int p3), .val (.int p4), .val (.int p5), .unset, .unset, .unset, .unset, .unset, .unset, .unset, .unset, .unset, .unset, .unset, .unset]) (fun m => by first | (simp [entryFrame, mkF, argsToLocals, Value.category, maxLocals]; done) | rfl) ?_
  intro G s k
  have k : W0 l Z n0 Q0 G s h0 0 0 4 #[.val (.int p0), .val (.int p1), .val (.int p2), .val (.int p3), .val (.int p4), .val (.int p5), .unset, .unset, .unset, .unset, .unset, .unset, .unset, .unset, .unset, .unset, .unset, .unset] [(.int (p0 &&& (7 : Int32)))] := ((k.iloadN at_0 rfl).bipush (7) at_1 rfl).iand at_3
  obtain ⟨g0, hg0⟩ : ∃ z : Int32, z = p0 &&& (7 : Int32) := ⟨_, rfl⟩
  rw [← hg0] at k
  have k : W0 l Z n0 Q0 G s h0 0 0 12 #[.val (.int p0), .val (.int p1), .val (.int p2), .val (.int p3), .val (.int p4), .val (.int p5), .val (.int g0), .unset, .unset, .unset, .unset, .unset, .unset, .unset, .unset, .unset, .unset, .unset] [(.int ((XT.ushr p0 (3 : Int32)) &&& (7 : Int32)))] := (((((k.istore at_4 (Ls' := #[.val (.int p0), .val (.int p1), .val (.int p2), .val (.int p3), .val (.int p4), .val (.int p5), .val (.int g0), .unset, .unset, .unset, .unset, .unset, .unset, .unset, .unset, .unset, .unset, .unset]) rfl).iloadN at_6 rfl).iconst (3) at_7 rfl).iushr at_8).bipush (7) at_9 rfl).iand at_11
  obtain ⟨g1, hg1⟩ : ∃ z : Int32, z = (XT.ushr p0 (3 : Int32)) &&& (7 : Int32) := ⟨_, rfl⟩
  rw [← hg1] at k
  have k : W0 l Z n0 Q0 G s h0 0 0 21 #[.val (.int p0), .val (.int p1), .val (.int p2), .val (.int p3), .val (.int p4), .val (.int p5), .val (.int g0), .val (.int g1), .unset, .unset, .unset, .unset, .unset, .unset, .unset, .unset, .unset, .unset] [(.int ((XT.ushr p0 (6 : Int32)) &&& (7 : Int32)))] := (((((k.istore at_12 (Ls' := #[.val (.int p0), .val (.int p1), .val (.int p2), .val (.int p3), .val (.int p4), .val (.int p5), .val (.int g0), .val (.int g1), .unset, .unset, .unset, .unset, .unset, .unset, .unset, .unset, .unset, .unset]) rfl).iloadN at_14 rfl).bipush (6) at_15 rfl).iushr at_17).bipush (7) at_18 rfl).iand at_20
  obtain ⟨g2, hg2⟩ : ∃ z : Int32, z = (XT.ushr p0 (6 : Int32)) &&& (7 : Int32) := ⟨_, rfl⟩
  rw [← hg2] at k
  have k : W0 l Z n0 Q0 G s h0 0 0 24 #[.val (.int p0), .val (.int p1), .val (.int p2), .val (.int p3), .val (.int p4), .val (.int p5), .val (.int g0), .val (.int g1), .val (.int g2), .unset, .unset, .unset, .unset, .unset, .unset, .unset, .unset, .unset] [(.int (3 : Int32))] := (k.istore at_21 (Ls' := #[.val (.int p0), .val (.int p1), .val (.int p2), .val (.int p3), .val (.int p4), .val (.int p5), .val (.int g0), .val (.int g1), .val (.int g2), .unset, .unset, .unset, .unset, .unset, .unset, .unset, .unset, .unset]) rfl).iconst (3) at_23 rfl
  obtain ⟨h13, K13, A13, k⟩ := k.newA (hw _ (List.mem_of_getElem? (i := 0) rfl)) at_24 3 rfl (by decide) (by decide) (by decide) (by decide)
  obtain ⟨a13, ea13⟩ : ∃ z, z = h0.size := ⟨_, rfl⟩
  rw [← ea13] at A13 k
  have n_a13 : n0 ≤ a13 := by omega
  have A13 : AV Z h13 a13 .int [(.int (0 : Int32)), (.int (0 : Int32)), (.int (0 : Int32))] := A13
  have s_h13 : n0 ≤ h13.size := Nat.le_trans (by omega) K13.1
  have k : W0 l Z n0 Q0 G s h13 1 3 26 #[.val (.int p0), .val (.int p1), .val (.int p2), .val (.int p3), .val (.int p4), .val (.int p5), .val (.int g0), .val (.int g1), .val (.int g2), .unset, .unset, .unset, .unset, .unset, .unset, .unset, .unset, .unset] [(.ref a13)] := k
  have k : W0 l Z n0 Q0 G s h13 1 3 29 #[.val (.int p0), .val (.int p1), .val (.int p2), .val (.int p3), .val (.int p4), .val (.int p5), .val (.int g0), .val (.int g1), .val (.int g2), .unset, .unset, .unset, .unset, .unset, .unset, .unset, .unset, .unset] [(.int p1), (.int (0 : Int32)), (.ref a13), (.ref a13)] := ((k.dup at_26 rfl).iconst (0) at_27 rfl).iloadN at_28 rfl
  obtain ⟨h14, K14, A13', k⟩ := k.stI A13 0 rfl (by decide) (by simp) n_a13 at_29
  have A13 : AV Z h14 a13 .int [(.int p1), (.int (0 : Int32)), (.int (0 : Int32))] := A13'
  have s_h14 : n0 ≤ h14.size := Nat.le_trans (by omega) K14.1
  have k : W0 l Z n0 Q0 G s h14 1 3 30 #[.val (.int p0), .val (.int p1), .val (.int p2), .val (.int p3), .val (.int p4), .val (.int p5), .val (.int g0), .val (.int g1), .val (.int g2), .unset, .unset, .unset, .unset, .unset, .unset, .unset, .unset, .unset] [(.ref a13)] := k
  have k : W0 l Z n0 Q0 G s h14 1 3 33 #[.val (.int p0), .val (.int p1), .val (.int p2), .val (.int p3), .val (.int p4), .val (.int p5), .val (.int g0), .val (.int g1), .val (.int g2), .unset, .unset, .unset, .unset, .unset, .unset, .unset, .unset, .unset] [(.int p2), (.int (1 : Int32)), (.ref a13), (.ref a13)] := ((k.dup at_30 rfl).iconst (1) at_31 rfl).iloadN at_32 rfl
  obtain ⟨h15, K15, A13', k⟩ := k.stI A13 1 rfl (by decide) (by simp) n_a13 at_33
  have A13 : AV Z h15 a13 .int [(.int p1), (.int p2), (.int (0 : Int32))] := A13'
  have s_h15 : n0 ≤ h15.size := Nat.le_trans (by omega) K15.1
  have k : W0 l Z n0 Q0 G s h15 1 3 34 #[.val (.int p0), .val (.int p1), .val (.int p2), .val (.int p3), .val (.int p4), .val (.int p5), .val (.int g0), .val (.int g1), .val (.int g2), .unset, .unset, .unset, .unset, .unset, .unset, .unset, .unset, .unset] [(.ref a13)] := k
  have k : W0 l Z n0 Q0 G s h15 1 3 37 #[.val (.int p0), .val (.int p1), .val (.int p2), .val (.int p3), .val (.int p4), .val (.int p5), .val (.int g0), .val (.int g1), .val (.int g2), .unset, .unset, .unset, .unset, .unset, .unset, .unset, .unset, .unset] [(.int p3), (.int (2 : Int32)), (.ref a13), (.ref a13)] := ((k.dup at_34 rfl).iconst (2) at_35 rfl).iloadN at_36 rfl
  obtain ⟨h16, K16, A13', k⟩ := k.stI A13 2 rfl (by decide) (by simp) n_a13 at_37
  have A13 : AV Z h16 a13 .int [(.int p1), (.int p2), (.int p3)] := A13'
  have s_h16 : n0 ≤ h16.size := Nat.le_trans (by omega) K16.1
  have k : W0 l Z n0 Q0 G s h16 1 3 38 #[.val (.int p0), .val (.int p1), .val (.int p2), .val (.int p3), .val (.int p4), .val (.int p5), .val (.int g0), .val (.int g1), .val (.int g2), .unset, .unset, .unset, .unset, .unset, .unset, .unset, .unset, .unset] [(.ref a13)] := k
  have k : W0 l Z n0 Q0 G s h16 1 3 41 #[.val (.int p0), .val (.int p1), .val (.int p2), .val (.int p3), .val (.int p4), .val (.int p5), .val (.int g0), .val (.int g1), .val (.int g2), .val (.ref a13), .unset, .unset, .unset, .unset, .unset, .unset, .unset, .unset] [(.int (3 : Int32))] := (k.astore at_38 rfl (Ls' := #[.val (.int p0), .val (.int p1), .val (.int p2), .val (.int p3), .val (.int p4), .val (.int p5), .val (.int g0), .val (.int g1), .val (.int g2), .val (.ref a13), .unset, .unset, .unset, .unset, .unset, .unset, .unset, .unset]) rfl).iconst (3) at_40 rfl
  obtain ⟨h17, K17, A17, k⟩ := k.newA (hw _ (List.mem_of_getElem? (i := 0) rfl)) at_41 3 rfl (by decide) (by decide) (by decide) (by decide)
  obtain ⟨a17, ea17⟩ : ∃ z, z = h16.size := ⟨_, rfl⟩
  rw [← ea17] at A17 k
  have n_a17 : n0 ≤ a17 := by omega
  have o_a13_a17 : a13 < a17 := by have q : a13 < h16.size := A13.lt; omega
  have A13 := A13.keep K17 nin0
  have A17 : AV Z h17 a17 .int [(.int (0 : Int32)), (.int (0 : Int32)), (.int (0 : Int32))] := A17
  have s_h17 : n0 ≤ h17.size := Nat.le_trans (by omega) K17.1
  have k : W0 l Z n0 Q0 G s h17 2 6 43 #[.val (.int p0), .val (.int p1), .val (.int p2), .val (.int p3), .val (.int p4), .val (.int p5), .val (.int g0), .val (.int g1), .val (.int g2), .val (.ref a13), .unset, .unset, .unset, .unset, .unset, .unset, .unset, .unset] [(.ref a17)] := k
  have k : W0 l Z n0 Q0 G s h17 2 6 47 #[.val (.int p0), .val (.int p1), .val (.int p2), .val (.int p3), .val (.int p4), .val (.int p5), .val (.int g0), .val (.int g1), .val (.int g2), .val (.ref a13), .unset, .unset, .unset, .unset, .unset, .unset, .unset, .unset] [(.int g0), (.int (0 : Int32)), (.ref a17), (.ref a17)] := ((k.dup at_43 rfl).iconst (0) at_44 rfl).iload at_45 rfl
  obtain ⟨v18, h18, ⟨rfl, r18, rfl, hr18⟩, k⟩ := k.callS (hw _ (List.mem_of_getElem? (i := 1) rfl)) (hw _ (List.mem_of_getElem? (i := 2) rfl)) (hw _ (List.mem_of_getElem? (i := 3) rfl)) (hw _ (List.mem_of_getElem? (i := 4) rfl)) (by decide) (con1 l Z a0 hw g0 h17 n0) (argsL := [(.int g0)]) (rest := [(.int (0 : Int32)), (.ref a17), (.ref a17)]) (lenOf pd1 rfl) at_47 rfl rfl 3 (Nat.le_of_eq rfl) (by decide) (by decide) (by decide) (by decide)
  have k : W0 l Z n0 Q0 G s h17 2 6 50 #[.val (.int p0), .val (.int p1), .val (.int p2), .val (.int p3), .val (.int p4), .val (.int p5), .val (.int g0), .val (.int g1), .val (.int g2), .val (.ref a13), .unset, .unset, .unset, .unset, .unset, .unset, .unset, .unset] [(.int r18), (.int (0 : Int32)), (.ref a17), (.ref a17)] := k
  obtain ⟨h19, K19, A17', k⟩ := k.stI A17 0 rfl (by decide) (by simp) n_a17 at_50
  have A13 := A13.keep K19 (nS (by omega) nin0)
  have A17 : AV Z h19 a17 .int [(.int r18), (.int (0 : Int32)), (.int (0 : Int32))] := A17'
  have s_h19 : n0 ≤ h19.size := Nat.le_trans (by omega) K19.1
  have k : W0 l Z n0 Q0 G s h19 2 6 51 #[.val (.int p0), .val (.int p1), .val (.int p2), .val (.int p3), .val (.int p4), .val (.int p5), .val (.int g0), .val (.int g1), .val (.int g2), .val (.ref a13), .unset, .unset, .unset, .unset, .unset, .unset, .unset, .unset] [(.ref a17)] := k
  have k : W0 l Z n0 Q0 G s h19 2 6 55 #[.val (.int p0), .val (.int p1), .val (.int p2), .val (.int p3), .val (.int p4), .val (.int p5), .val (.int g0), .val (.int g1), .val (.int g2), .val (.ref a13), .unset, .unset, .unset, .unset, .unset, .unset, .unset, .unset] [(.int g1), (.int (1 : Int32)), (.ref a17), (.ref a17)] := ((k.dup at_51 rfl).iconst (1) at_52 rfl).iload at_53 rfl
  obtain ⟨v20, h20, ⟨rfl, r20, rfl, hr20⟩, k⟩ := k.callS (hw _ (List.mem_of_getElem? (i := 1) rfl)) (hw _ (List.mem_of_getElem? (i := 2) rfl)) (hw _ (List.mem_of_getElem? (i := 3) rfl)) (hw _ (List.mem_of_getElem? (i := 4) rfl)) (by decide) (con1 l Z a0 hw g1 h19 n0) (argsL := [(.int g1)]) (rest := [(.int (1 : Int32)), (.ref a17), (.ref a17)]) (lenOf pd1 rfl) at_55 rfl rfl 3 (Nat.le_of_eq rfl) (by decide) (by decide) (by decide) (by decide)
  have k : W0 l Z n0 Q0 G s h19 2 6 58 #[.val (.int p0), .val (.int p1), .val (.int p2), .val (.int p3), .val (.int p4), .val (.int p5), .val (.int g0), .val (.int g1), .val (.int g2), .val (.ref a13), .unset, .unset, .unset, .unset, .unset, .unset, .unset, .unset] [(.int r20), (.int (1 : Int32)), (.ref a17), (.ref a17)] := k
  obtain ⟨h21, K21, A17', k⟩ := k.stI A17 1 rfl (by decide) (by simp) n_a17 at_58
  have A13 := A13.keep K21 (nS (by omega) nin0)
  have A17 : AV Z h21 a17 .int [(.int r18), (.int r20), (.int (0 : Int32))] := A17'
  have s_h21 : n0 ≤ h21.size := Nat.le_trans (by omega) K21.1
  have k : W0 l Z n0 Q0 G s h21 2 6 59 #[.val (.int p0), .val (.int p1), .val (.int p2), .val (.int p3), .val (.int p4), .val (.int p5), .val (.int g0), .val (.int g1), .val (.int g2), .val (.ref a13), .unset, .unset, .unset, .unset, .unset, .unset, .unset, .unset] [(.ref a17)] := k
  have k : W0 l Z n0 Q0 G s h21 2 6 63 #[.val (.int p0), .val (.int p1), .val (.int p2), .val (.int p3), .val (.int p4), .val (.int p5), .val (.int g0), .val (.int g1), .val (.int g2), .val (.ref a13), .unset, .unset, .unset, .unset, .unset, .unset, .unset, .unset] [(.int g2), (.int (2 : Int32)), (.ref a17), (.ref a17)] := ((k.dup at_59 rfl).iconst (2) at_60 rfl).iload at_61 rfl
  obtain ⟨v22, h22, ⟨rfl, r22, rfl, hr22⟩, k⟩ := k.callS (hw _ (List.mem_of_getElem? (i := 1) rfl)) (hw _ (List.mem_of_getElem? (i := 2) rfl)) (hw _ (List.mem_of_getElem? (i := 3) rfl)) (hw _ (List.mem_of_getElem? (i := 4) rfl)) (by decide) (con1 l Z a0 hw g2 h21 n0) (argsL := [(.int g2)]) (rest := [(.int (2 : Int32)), (.ref a17), (.ref a17)]) (lenOf pd1 rfl) at_63 rfl rfl 3 (Nat.le_of_eq rfl) (by decide) (by decide) (by decide) (by decide)
  have k : W0 l Z n0 Q0 G s h21 2 6 66 #[.val (.int p0), .val (.int p1), .val (.int p2), .val (.int p3), .val (.int p4), .val (.int p5), .val (.int g0), .val (.int g1), .val (.int g2), .val (.ref a13), .unset, .unset, .unset, .unset, .unset, .unset, .unset, .unset] [(.int r22), (.int (2 : Int32)), (.ref a17), (.ref a17)] := k
  obtain ⟨h23, K23, A17', k⟩ := k.stI A17 2 rfl (by decide) (by simp) n_a17 at_66
  have A13 := A13.keep K23 (nS (by omega) nin0)
  have A17 : AV Z h23 a17 .int [(.int r18), (.int r20), (.int r22)] := A17'
  have s_h23 : n0 ≤ h23.size := Nat.le_trans (by omega) K23.1
  have k : W0 l Z n0 Q0 G s h23 2 6 67 #[.val (.int p0), .val (.int p1), .val (.int p2), .val (.int p3), .val (.int p4), .val (.int p5), .val (.int g0), .val (.int g1), .val (.int g2), .val (.ref a13), .unset, .unset, .unset, .unset, .unset, .unset, .unset, .unset] [(.ref a17)] := k
  have k : W0 l Z n0 Q0 G s h23 2 6 70 #[.val (.int p0), .val (.int p1), .val (.int p2), .val (.int p3), .val (.int p4), .val (.int p5), .val (.int g0), .val (.int g1), .val (.int g2), .val (.ref a13), .val (.ref a17), .unset, .unset, .unset, .unset, .unset, .unset, .unset] [(.int (4 : Int32))] := (k.astore at_67 rfl (Ls' := #[.val (.int p0), .val (.int p1), .val (.int p2), .val (.int p3), .val (.int p4), .val (.int p5), .val (.int g0), .val (.int g1), .val (.int g2), .val (.ref a13), .val (.ref a17), .unset, .unset, .unset, .unset, .unset, .unset, .unset]) rfl).iconst (4) at_69 rfl
  obtain ⟨h24, K24, A24, k⟩ := k.newA (hw _ (List.mem_of_getElem? (i := 0) rfl)) at_70 4 rfl (by decide) (by decide) (by decide) (by decide)
  obtain ⟨a24, ea24⟩ : ∃ z, z = h23.size := ⟨_, rfl⟩
  rw [← ea24] at A24 k
  have n_a24 : n0 ≤ a24 := by omega
  have o_a13_a24 : a13 < a24 := by have q : a13 < h23.size := A13.lt; omega
  have o_a17_a24 : a17 < a24 := by have q : a17 < h23.size := A17.lt; omega
  have A13 := A13.keep K24 nin0
  have A17 := A17.keep K24 nin0
  have A24 : AV Z h24 a24 .int [(.int (0 : Int32)), (.int (0 : Int32)), (.int (0 : Int32)), (.int (0 : Int32))] := A24
  have s_h24 : n0 ≤ h24.size := Nat.le_trans (by omega) K24.1
  have k : W0 l Z n0 Q0 G s h24 3 10 72 #[.val (.int p0), .val (.int p1), .val (.int p2), .val (.int p3), .val (.int p4), .val (.int p5), .val (.int g0), .val (.int g1), .val (.int g2), .val (.ref a13), .val (.ref a17), .unset, .unset, .unset, .unset, .unset, .unset, .unset] [(.ref a24)] := k
  have k : W0 l Z n0 Q0 G s h24 3 10 76 #[.val (.int p0), .val (.int p1), .val (.int p2), .val (.int p3), .val (.int p4), .val (.int p5), .val (.int g0), .val (.int g1), .val (.int g2), .val (.ref a13), .val (.ref a17), .unset, .unset, .unset, .unset, .unset, .unset, .unset] [(.int p4), (.int (0 : Int32)), (.ref a24), (.ref a24)] := ((k.dup at_72 rfl).iconst (0) at_73 rfl).iload at_74 rfl
  obtain ⟨h25, K25, A24', k⟩ := k.stI A24 0 rfl (by decide) (by simp) n_a24 at_76
  have A13 := A13.keep K25 (nS (by omega) nin0)
  have A17 := A17.keep K25 (nS (by omega) nin0)
  have A24 : AV Z h25 a24 .int [(.int p4), (.int (0 : Int32)), (.int (0 : Int32)), (.int (0 : Int32))] := A24'
  have s_h25 : n0 ≤ h25.size := Nat.le_trans (by omega) K25.1
  have k : W0 l Z n0 Q0 G s h25 3 10 77 #[.val (.int p0), .val (.int p1), .val (.int p2), .val (.int p3), .val (.int p4), .val (.int p5), .val (.int g0), .val (.int g1), .val (.int g2), .val (.ref a13), .val (.ref a17), .unset, .unset, .unset, .unset, .unset, .unset, .unset] [(.ref a24)] := k
  have k : W0 l Z n0 Q0 G s h25 3 10 81 #[.val (.int p0), .val (.int p1), .val (.int p2), .val (.int p3), .val (.int p4), .val (.int p5), .val (.int g0), .val (.int g1), .val (.int g2), .val (.ref a13), .val (.ref a17), .unset, .unset, .unset, .unset, .unset, .unset, .unset] [(.int p5), (.int (1 : Int32)), (.ref a24), (.ref a24)] := ((k.dup at_77 rfl).iconst (1) at_78 rfl).iload at_79 rfl
  obtain ⟨h26, K26, A24', k⟩ := k.stI A24 1 rfl (by decide) (by simp) n_a24 at_81
  have A13 := A13.keep K26 (nS (by omega) nin0)
  have A17 := A17.keep K26 (nS (by omega) nin0)
  have A24 : AV Z h26 a24 .int [(.int p4), (.int p5), (.int (0 : Int32)), (.int (0 : Int32))] := A24'
  have s_h26 : n0 ≤ h26.size := Nat.le_trans (by omega) K26.1
  have k : W0 l Z n0 Q0 G s h26 3 10 82 #[.val (.int p0), .val (.int p1), .val (.int p2), .val (.int p3), .val (.int p4), .val (.int p5), .val (.int g0), .val (.int g1), .val (.int g2), .val (.ref a13), .val (.ref a17), .unset, .unset, .unset, .unset, .unset, .unset, .unset] [(.ref a24)] := k
  have k : W0 l Z n0 Q0 G s h26 3 10 88 #[.val (.int p0), .val (.int p1), .val (.int p2), .val (.int p3), .val (.int p4), .val (.int p5), .val (.int g0), .val (.int g1), .val (.int g2), .val (.ref a13), .val (.ref a17), .unset, .unset, .unset, .unset, .unset, .unset, .unset] [(.int (p4 ^^^ (-1 : Int32))), (.int (2 : Int32)), (.ref a24), (.ref a24)] := ((((k.dup at_82 rfl).iconst (2) at_83 rfl).iload at_84 rfl).iconst (-1) at_86 rfl).ixor at_87
  obtain ⟨h27, K27, A24', k⟩ := k.stI A24 2 rfl (by decide) (by simp) n_a24 at_88
  have A13 := A13.keep K27 (nS (by omega) nin0)
  have A17 := A17.keep K27 (nS (by omega) nin0)
  have A24 : AV Z h27 a24 .int [(.int p4), (.int p5), (.int (p4 ^^^ (-1 : Int32))), (.int (0 : Int32))] := A24'
  have s_h27 : n0 ≤ h27.size := Nat.le_trans (by omega) K27.1
  have k : W0 l Z n0 Q0 G s h27 3 10 89 #[.val (.int p0), .val (.int p1), .val (.int p2), .val (.int p3), .val (.int p4), .val (.int p5), .val (.int g0), .val (.int g1), .val (.int g2), .val (.ref a13), .val (.ref a17), .unset, .unset, .unset, .unset, .unset, .unset, .unset] [(.ref a24)] := k
  have k : W0 l Z n0 Q0 G s h27 3 10 95 #[.val (.int p0), .val (.int p1), .val (.int p2), .val (.int p3), .val (.int p4), .val (.int p5), .val (.int g0), .val (.int g1), .val (.int g2), .val (.ref a13), .val (.ref a17), .unset, .unset, .unset, .unset, .unset, .unset, .unset] [(.int (p5 ^^^ (-1 : Int32))), (.int (3 : Int32)), (.ref a24), (.ref a24)] := ((((k.dup at_89 rfl).iconst (3) at_90 rfl).iload at_91 rfl).iconst (-1) at_93 rfl).ixor at_94
  obtain ⟨h28, K28, A24', k⟩ := k.stI A24 3 rfl (by decide) (by simp) n_a24 at_95
  have A13 := A13.keep K28 (nS (by omega) nin0)
  have A17 := A17.keep K28 (nS (by omega) nin0)
  have A24 : AV Z h28 a24 .int [(.int p4), (.int p5), (.int (p4 ^^^ (-1 : Int32))), (.int (p5 ^^^ (-1 : Int32)))] := A24'
  have s_h28 : n0 ≤ h28.size := Nat.le_trans (by omega) K28.1
  have k : W0 l Z n0 Q0 G s h28 3 10 96 #[.val (.int p0), .val (.int p1), .val (.int p2), .val (.int p3), .val (.int p4), .val (.int p5), .val (.int g0), .val (.int g1), .val (.int g2), .val (.ref a13), .val (.ref a17), .unset, .unset, .unset, .unset, .unset, .unset, .unset] [(.ref a24)] := k
  have k : W0 l Z n0 Q0 G s h28 3 10 99 #[.val (.int p0), .val (.int p1), .val (.int p2), .val (.int p3), .val (.int p4), .val (.int p5), .val (.int g0), .val (.int g1), .val (.int g2), .val (.ref a13), .val (.ref a17), .val (.ref a24), .unset, .unset, .unset, .unset, .unset, .unset] [(.int (4 : Int32))] := (k.astore at_96 rfl (Ls' := #[.val (.int p0), .val (.int p1), .val (.int p2), .val (.int p3), .val (.int p4), .val (.int p5), .val (.int g0), .val (.int g1), .val (.int g2), .val (.ref a13), .val (.ref a17), .val (.ref a24), .unset, .unset, .unset, .unset, .unset, .unset]) rfl).iconst (4) at_98 rfl
  obtain ⟨h29, K29, A29, k⟩ := k.newA (hw _ (List.mem_of_getElem? (i := 0) rfl)) at_99 4 rfl (by decide) (by decide) (by decide) (by decide)
  obtain ⟨a29, ea29⟩ : ∃ z, z = h28.size := ⟨_, rfl⟩
  rw [← ea29] at A29 k
  have n_a29 : n0 ≤ a29 := by omega
  have o_a13_a29 : a13 < a29 := by have q : a13 < h28.size := A13.lt; omega
  have o_a17_a29 : a17 < a29 := by have q : a17 < h28.size := A17.lt; omega
  have o_a24_a29 : a24 < a29 := by have q : a24 < h28.size := A24.lt; omega
  have A13 := A13.keep K29 nin0
  have A17 := A17.keep K29 nin0
  have A24 := A24.keep K29 nin0
  have A29 : AV Z h29 a29 .int [(.int (0 : Int32)), (.int (0 : Int32)), (.int (0 : Int32)), (.int (0 : Int32))] := A29
  have s_h29 : n0 ≤ h29.size := Nat.le_trans (by omega) K29.1
  have k : W0 l Z n0 Q0 G s h29 4 14 101 #[.val (.int p0), .val (.int p1), .val (.int p2), .val (.int p3), .val (.int p4), .val (.int p5), .val (.int g0), .val (.int g1), .val (.int g2), .val (.ref a13), .val (.ref a17), .val (.ref a24), .unset, .unset, .unset, .unset, .unset, .unset] [(.ref a29)] := k
  have k : W0 l Z n0 Q0 G s h29 4 14 104 #[.val (.int p0), .val (.int p1), .val (.int p2), .val (.int p3), .val (.int p4), .val (.int p5), .val (.int g0), .val (.int g1), .val (.int g2), .val (.ref a13), .val (.ref a17), .val (.ref a24), .unset, .unset, .unset, .unset, .unset, .unset] [(.int p0), (.int (0 : Int32)), (.ref a29), (.ref a29)] := ((k.dup at_101 rfl).iconst (0) at_102 rfl).iloadN at_103 rfl
  obtain ⟨h30, K30, A29', k⟩ := k.stI A29 0 rfl (by decide) (by simp) n_a29 at_104
  have A13 := A13.keep K30 (nS (by omega) nin0)
  have A17 := A17.keep K30 (nS (by omega) nin0)
  have A24 := A24.keep K30 (nS (by omega) nin0)
  have A29 : AV Z h30 a29 .int [(.int p0), (.int (0 : Int32)), (.int (0 : Int32)), (.int (0 : Int32))] := A29'
  have s_h30 : n0 ≤ h30.size := Nat.le_trans (by omega) K30.1
  have k : W0 l Z n0 Q0 G s h30 4 14 105 #[.val (.int p0), .val (.int p1), .val (.int p2), .val (.int p3), .val (.int p4), .val (.int p5), .val (.int g0), .val (.int g1), .val (.int g2), .val (.ref a13), .val (.ref a17), .val (.ref a24), .unset, .unset, .unset, .unset, .unset, .unset] [(.ref a29)] := k
  have k : W0 l Z n0 Q0 G s h30 4 14 108 #[.val (.int p0), .val (.int p1), .val (.int p2), .val (.int p3), .val (.int p4), .val (.int p5), .val (.int g0), .val (.int g1), .val (.int g2), .val (.ref a13), .val (.ref a17), .val (.ref a24), .unset, .unset, .unset, .unset, .unset, .unset] [(.int p0), (.int (1 : Int32)), (.ref a29), (.ref a29)] := ((k.dup at_105 rfl).iconst (1) at_106 rfl).iloadN at_107 rfl
  obtain ⟨h31, K31, A29', k⟩ := k.stI A29 1 rfl (by decide) (by simp) n_a29 at_108
  have A13 := A13.keep K31 (nS (by omega) nin0)
  have A17 := A17.keep K31 (nS (by omega) nin0)
  have A24 := A24.keep K31 (nS (by omega) nin0)
  have A29 : AV Z h31 a29 .int [(.int p0), (.int p0), (.int (0 : Int32)), (.int (0 : Int32))] := A29'
  have s_h31 : n0 ≤ h31.size := Nat.le_trans (by omega) K31.1
  have k : W0 l Z n0 Q0 G s h31 4 14 109 #[.val (.int p0), .val (.int p1), .val (.int p2), .val (.int p3), .val (.int p4), .val (.int p5), .val (.int g0), .val (.int g1), .val (.int g2), .val (.ref a13), .val (.ref a17), .val (.ref a24), .unset, .unset, .unset, .unset, .unset, .unset] [(.ref a29)] := k
  have k : W0 l Z n0 Q0 G s h31 4 14 112 #[.val (.int p0), .val (.int p1), .val (.int p2), .val (.int p3), .val (.int p4), .val (.int p5), .val (.int g0), .val (.int g1), .val (.int g2), .val (.ref a13), .val (.ref a17), .val (.ref a24), .unset, .unset, .unset, .unset, .unset, .unset] [(.int p0), (.int (2 : Int32)), (.ref a29), (.ref a29)] := ((k.dup at_109 rfl).iconst (2) at_110 rfl).iloadN at_111 rfl
  obtain ⟨h32, K32, A29', k⟩ := k.stI A29 2 rfl (by decide) (by simp) n_a29 at_112
  have A13 := A13.keep K32 (nS (by omega) nin0)
  have A17 := A17.keep K32 (nS (by omega) nin0)
  have A24 := A24.keep K32 (nS (by omega) nin0)
  have A29 : AV Z h32 a29 .int [(.int p0), (.int p0), (.int p0), (.int (0 : Int32))] := A29'
  have s_h32 : n0 ≤ h32.size := Nat.le_trans (by omega) K32.1
  have k : W0 l Z n0 Q0 G s h32 4 14 113 #[.val (.int p0), .val (.int p1), .val (.int p2), .val (.int p3), .val (.int p4), .val (.int p5), .val (.int g0), .val (.int g1), .val (.int g2), .val (.ref a13), .val (.ref a17), .val (.ref a24), .unset, .unset, .unset, .unset, .unset, .unset] [(.ref a29)] := k
  have k : W0 l Z n0 Q0 G s h32 4 14 116 #[.val (.int p0), .val (.int p1), .val (.int p2), .val (.int p3), .val (.int p4), .val (.int p5), .val (.int g0), .val (.int g1), .val (.int g2), .val (.ref a13), .val (.ref a17), .val (.ref a24), .unset, .unset, .unset, .unset, .unset, .unset] [(.int p0), (.int (3 : Int32)), (.ref a29), (.ref a29)] := ((k.dup at_113 rfl).iconst (3) at_114 rfl).iloadN at_115 rfl
  obtain ⟨h33, K33, A29', k⟩ := k.stI A29 3 rfl (by decide) (by simp) n_a29 at_116
  have A13 := A13.keep K33 (nS (by omega) nin0)
  have A17 := A17.keep K33 (nS (by omega) nin0)
  have A24 := A24.keep K33 (nS (by omega) nin0)
  have A29 : AV Z h33 a29 .int [(.int p0), (.int p0), (.int p0), (.int p0)] := A29'
  have s_h33 : n0 ≤ h33.size := Nat.le_trans (by omega) K33.1
  have k : W0 l Z n0 Q0 G s h33 4 14 117 #[.val (.int p0), .val (.int p1), .val (.int p2), .val (.int p3), .val (.int p4), .val (.int p5), .val (.int g0), .val (.int g1), .val (.int g2), .val (.ref a13), .val (.ref a17), .val (.ref a24), .unset, .unset, .unset, .unset, .unset, .unset] [(.ref a29)] := k
  have k : W0 l Z n0 Q0 G s h33 4 14 126 #[.val (.int p0), .val (.int p1), .val (.int p2), .val (.int p3), .val (.int p4), .val (.int p5), .val (.int g0), .val (.int g1), .val (.int g2), .val (.ref a13), .val (.ref a17), .val (.ref a24), .val (.ref a29), .unset, .unset, .unset, .unset, .unset] [(.int p5), (.int p4), (.int p1), (.int g0)] := ((((k.astore at_117 rfl (Ls' := #[.val (.int p0), .val (.int p1), .val (.int p2), .val (.int p3), .val (.int p4), .val (.int p5), .val (.int g0), .val (.int g1), .val (.int g2), .val (.ref a13), .val (.ref a17), .val (.ref a24), .val (.ref a29), .unset, .unset, .unset, .unset, .unset]) rfl).iload at_119 rfl).iloadN at_121 rfl).iload at_122 rfl).iload at_124 rfl
  obtain ⟨v34, h34, ⟨rfl, r34, rfl, hr34⟩, k⟩ := k.callS (hw _ (List.mem_of_getElem? (i := 5) rfl)) (hw _ (List.mem_of_getElem? (i := 6) rfl)) (hw _ (List.mem_of_getElem? (i := 3) rfl)) (hw _ (List.mem_of_getElem? (i := 7) rfl)) (by decide) (con2 l Z a0 hw g0 p1 p4 p5 h33 n0) (argsL := [(.int g0), (.int p1), (.int p4), (.int p5)]) (rest := []) (lenOf pd2 rfl) at_126 rfl rfl 0 (Nat.le_of_eq rfl) (by decide) (by decide) (by decide) (by decide)
  have k : W0 l Z n0 Q0 G s h33 4 14 129 #[.val (.int p0), .val (.int p1), .val (.int p2), .val (.int p3), .val (.int p4), .val (.int p5), .val (.int g0), .val (.int g1), .val (.int g2), .val (.ref a13), .val (.ref a17), .val (.ref a24), .val (.ref a29), .unset, .unset, .unset, .unset, .unset] [(.int r34)] := k
  have k : W0 l Z n0 Q0 G s h33 4 14 138 #[.val (.int p0), .val (.int p1), .val (.int p2), .val (.int p3), .val (.int p4), .val (.int p5), .val (.int g0), .val (.int g1), .val (.int g2), .val (.ref a13), .val (.ref a17), .val (.ref a24), .val (.ref a29), .val (.int r34), .unset, .unset, .unset, .unset] [(.int p5), (.int p4), (.int p2), (.int g1)] := ((((k.istore at_129 (Ls' := #[.val (.int p0), .val (.int p1), .val (.int p2), .val (.int p3), .val (.int p4), .val (.int p5), .val (.int g0), .val (.int g1), .val (.int g2), .val (.ref a13), .val (.ref a17), .val (.ref a24), .val (.ref a29), .val (.int r34), .unset, .unset, .unset, .unset]) rfl).iload at_131 rfl).iloadN at_133 rfl).iload at_134 rfl).iload at_136 rfl
  obtain ⟨v35, h35, ⟨rfl, r35, rfl, hr35⟩, k⟩ := k.callS (hw _ (List.mem_of_getElem? (i := 5) rfl)) (hw _ (List.mem_of_getElem? (i := 6) rfl)) (hw _ (List.mem_of_getElem? (i := 3) rfl)) (hw _ (List.mem_of_getElem? (i := 7) rfl)) (by decide) (con2 l Z a0 hw g1 p2 p4 p5 h33 n0) (argsL := [(.int g1), (.int p2), (.int p4), (.int p5)]) (rest := []) (lenOf pd2 rfl) at_138 rfl rfl 0 (Nat.le_of_eq rfl) (by decide) (by decide) (by decide) (by decide)
  have k : W0 l Z n0 Q0 G s h33 4 14 141 #[.val (.int p0), .val (.int p1), .val (.int p2), .val (.int p3), .val (.int p4), .val (.int p5), .val (.int g0), .val (.int g1), .val (.int g2), .val (.ref a13), .val (.ref a17), .val (.ref a24), .val (.ref a29), .val (.int r34), .unset, .unset, .unset, .unset] [(.int r35)] := k
  have k : W0 l Z n0 Q0 G s h33 4 14 150 #[.val (.int p0), .val (.int p1), .val (.int p2), .val (.int p3), .val (.int p4), .val (.int p5), .val (.int g0), .val (.int g1), .val (.int g2), .val (.ref a13), .val (.ref a17), .val (.ref a24), .val (.ref a29), .val (.int r34), .val (.int r35), .unset, .unset, .unset] [(.int p5), (.int p4), (.int p3), (.int g2)] := ((((k.istore at_141 (Ls' := #[.val (.int p0), .val (.int p1), .val (.int p2), .val (.int p3), .val (.int p4), .val (.int p5), .val (.int g0), .val (.int g1), .val (.int g2), .val (.ref a13), .val (.ref a17), .val (.ref a24), .val (.ref a29), .val (.int r34), .val (.int r35), .unset, .unset, .unset]) rfl).iload at_143 rfl).iloadN at_145 rfl).iload at_146 rfl).iload at_148 rfl
  obtain ⟨v36, h36, ⟨rfl, r36, rfl, hr36⟩, k⟩ := k.callS (hw _ (List.mem_of_getElem? (i := 5) rfl)) (hw _ (List.mem_of_getElem? (i := 6) rfl)) (hw _ (List.mem_of_getElem? (i := 3) rfl)) (hw _ (List.mem_of_getElem? (i := 7) rfl)) (by decide) (con2 l Z a0 hw g2 p3 p4 p5 h33 n0) (argsL := [(.int g2), (.int p3), (.int p4), (.int p5)]) (rest := []) (lenOf pd2 rfl) at_150 rfl rfl 0 (Nat.le_of_eq rfl) (by decide) (by decide) (by decide) (by decide)
  have k : W0 l Z n0 Q0 G s h33 4 14 153 #[.val (.int p0), .val (.int p1), .val (.int p2), .val (.int p3), .val (.int p4), .val (.int p5), .val (.int g0), .val (.int g1), .val (.int g2), .val (.ref a13), .val (.ref a17), .val (.ref a24), .val (.ref a29), .val (.int r34), .val (.int r35), .unset, .unset, .unset] [(.int r36)] := k
  have k : W0 l Z n0 Q0 G s h33 4 14 155 #[.val (.int p0), .val (.int p1), .val (.int p2), .val (.int p3), .val (.int p4), .val (.int p5), .val (.int g0), .val (.int g1), .val (.int g2), .val (.ref a13), .val (.ref a17), .val (.ref a24), .val (.ref a29), .val (.int r34), .val (.int r35), .val (.int r36), .unset, .unset] [] := k.istore at_153 (Ls' := #[.val (.int p0), .val (.int p1), .val (.int p2), .val (.int p3), .val (.int p4), .val (.int p5), .val (.int g0), .val (.int g1), .val (.int g2), .val (.ref a13), .val (.ref a17), .val (.ref a24), .val (.ref a29), .val (.int r34), .val (.int r35), .val (.int r36), .unset, .unset]) rfl
  obtain ⟨h37, K37, E37, D37, k⟩ := k.newO (hw _ (List.mem_of_getElem? (i := 8) rfl)) (hw _ (List.mem_of_getElem? (i := 9) rfl)) (hw _ (List.mem_of_getElem? (i := 10) rfl)) at_155 (by decide) (by decide)
  obtain ⟨a37, ea37⟩ : ∃ z, z = h33.size := ⟨_, rfl⟩
  rw [← ea37] at E37 D37 k
  have n_a37 : n0 ≤ a37 := by omega
  have o_a13_a37 : a13 < a37 := by have q : a13 < h33.size := A13.lt; omega
  have o_a17_a37 : a17 < a37 := by have q : a17 < h33.size := A17.lt; omega
  have o_a24_a37 : a24 < a37 := by have q : a24 < h33.size := A24.lt; omega
  have o_a29_a37 : a29 < a37 := by have q : a29 < h33.size := A29.lt; omega
  have A13 := A13.keep K37 nin0
  have A17 := A17.keep K37 nin0
  have A24 := A24.keep K37 nin0
  have A29 := A29.keep K37 nin0
  have F37_relation : Fld Z h37 a37 "com/example/chasewell/chasewell/engine/CompiledAtom" "relation" "I" (.int (0 : Int32)) := D37 (Or.inr (hw _ (List.mem_of_getElem? (i := 23) rfl))) (ty := .int) (by decide)
  have F37_constants : Fld Z h37 a37 "com/example/chasewell/chasewell/engine/CompiledAtom" "constants" "[I" .null := D37 (Or.inr (hw _ (List.mem_of_getElem? (i := 25) rfl))) (ty := (.array .int)) (by decide)
  have F37_variables : Fld Z h37 a37 "com/example/chasewell/chasewell/engine/CompiledAtom" "variables" "[I" .null := D37 (Or.inr (hw _ (List.mem_of_getElem? (i := 27) rfl))) (ty := (.array .int)) (by decide)
  have s_h37 : n0 ≤ h37.size := Nat.le_trans (by omega) K37.1
  have k : W0 l Z n0 Q0 G s h37 5 17 158 #[.val (.int p0), .val (.int p1), .val (.int p2), .val (.int p3), .val (.int p4), .val (.int p5), .val (.int g0), .val (.int g1), .val (.int g2), .val (.ref a13), .val (.ref a17), .val (.ref a24), .val (.ref a29), .val (.int r34), .val (.int r35), .val (.int r36), .unset, .unset] [(.ref a37)] := k
  have k : W0 l Z n0 Q0 G s h37 5 17 165 #[.val (.int p0), .val (.int p1), .val (.int p2), .val (.int p3), .val (.int p4), .val (.int p5), .val (.int g0), .val (.int g1), .val (.int g2), .val (.ref a13), .val (.ref a17), .val (.ref a24), .val (.ref a29), .val (.int r34), .val (.int r35), .val (.int r36), .unset, .unset] [(.ref a17), (.ref a13), (.int p5), (.ref a37), (.ref a37)] := (((k.dup at_158 rfl).iload at_159 rfl).aload at_161 rfl rfl).aload at_163 rfl rfl
  obtain ⟨v38, h38, ⟨rfl, K38, E38, F2, F3⟩, k⟩ := k.callN rfl (hw _ (List.mem_of_getElem? (i := 11) rfl)) (hw _ (List.mem_of_getElem? (i := 12) rfl)) (hw _ (List.mem_of_getElem? (i := 10) rfl)) (hw _ (List.mem_of_getElem? (i := 13) rfl)) (by decide) (con4 l Z a0 hw a37 p5 a13 a17 h37 n0 (by omega) n_a37 E37 F37_relation F37_constants F37_variables) (argsL := [(.int p5), (.ref a13), (.ref a17)]) (rest := [(.ref a37)]) (lenOf pd4 rfl) at_165 rfl rfl 1 (Nat.le_of_eq rfl) (by decide) (by decide) (by decide) (by decide)
  have A13 := A13.keep K38 (nS (by omega) nin0)
  have A17 := A17.keep K38 (nS (by omega) nin0)
  have A24 := A24.keep K38 (nS (by omega) nin0)
  have A29 := A29.keep K38 (nS (by omega) nin0)
  have s_h38 : n0 ≤ h38.size := Nat.le_trans (by omega) K38.1
  have k : W0 l Z n0 Q0 G s h38 5 17 168 #[.val (.int p0), .val (.int p1), .val (.int p2), .val (.int p3), .val (.int p4), .val (.int p5), .val (.int g0), .val (.int g1), .val (.int g2), .val (.ref a13), .val (.ref a17), .val (.ref a24), .val (.ref a29), .val (.int r34), .val (.int r35), .val (.int r36), .unset, .unset] [(.ref a37)] := k
  have k : W0 l Z n0 Q0 G s h38 5 17 176 #[.val (.int p0), .val (.int p1), .val (.int p2), .val (.int p3), .val (.int p4), .val (.int p5), .val (.int g0), .val (.int g1), .val (.int g2), .val (.ref a13), .val (.ref a17), .val (.ref a24), .val (.ref a29), .val (.int r34), .val (.int r35), .val (.int r36), .val (.ref a37), .unset] [(.ref a29), (.ref a24), (.ref a37)] := (((k.astore at_168 rfl (Ls' := #[.val (.int p0), .val (.int p1), .val (.int p2), .val (.int p3), .val (.int p4), .val (.int p5), .val (.int g0), .val (.int g1), .val (.int g2), .val (.ref a13), .val (.ref a17), .val (.ref a24), .val (.ref a29), .val (.int r34), .val (.int r35), .val (.int r36), .val (.ref a37), .unset]) rfl).aload at_170 rfl rfl).aload at_172 rfl rfl).aload at_174 rfl rfl
  obtain ⟨v39, h39, ⟨rfl, K39, B39⟩, k⟩ := k.callV (hw _ (List.mem_of_getElem? (i := 28) rfl)) (hw _ (List.mem_of_getElem? (i := 29) rfl)) (hw _ (List.mem_of_getElem? (i := 30) rfl)) (hw _ (List.mem_of_getElem? (i := 31) rfl)) rfl (hw _ (List.mem_of_getElem? (i := 10) rfl)) (hw _ (List.mem_of_getElem? (i := 32) rfl)) (by decide) E38 (con5 l Z a0 hw a37 a24 a29 a13 a17 p1 p2 p3 p4 p5 p0 r18 r20 r22 r34 r35 r36 h38 n0 (by omega) n_a29 F2 F3 A13 A17 A24 A29 (by omega) (by omega) (by omega) (by omega) (own_rel hr18 hr34) (own_rel hr20 hr35) (own_rel hr22 hr36)) (argsL := [(.ref a24), (.ref a29)]) (rest := []) (lenOf pd5 rfl) at_176 rfl rfl 0 (Nat.le_of_eq rfl) (by decide) (by decide) (by decide) (by decide)
  have A13 := A13.keep K39 (nS (by omega) nin0)
  have A17 := A17.keep K39 (nS (by omega) nin0)
  have A24 := A24.keep K39 (nS (by omega) nin0)
  have E38 := E38.keep K39
  have F2 := F2.keep K39 (nS (by omega) nin0)
  have F3 := F3.keep K39 (nS (by omega) nin0)
  have s_h39 : n0 ≤ h39.size := Nat.le_trans (by omega) K39.1
  have k : W0 l Z n0 Q0 G s h39 5 17 179 #[.val (.int p0), .val (.int p1), .val (.int p2), .val (.int p3), .val (.int p4), .val (.int p5), .val (.int g0), .val (.int g1), .val (.int g2), .val (.ref a13), .val (.ref a17), .val (.ref a24), .val (.ref a29), .val (.int r34), .val (.int r35), .val (.int r36), .val (.ref a37), .unset] [(.ref a29)] := k
  have k : W0 l Z n0 Q0 G s h39 5 17 185 #[.val (.int p0), .val (.int p1), .val (.int p2), .val (.int p3), .val (.int p4), .val (.int p5), .val (.int g0), .val (.int g1), .val (.int g2), .val (.ref a13), .val (.ref a17), .val (.ref a24), .val (.ref a29), .val (.int r34), .val (.int r35), .val (.int r36), .val (.ref a37), .val (.ref a29)] [(.ref a29), (.ref a29)] := ((k.astore at_179 rfl (Ls' := #[.val (.int p0), .val (.int p1), .val (.int p2), .val (.int p3), .val (.int p4), .val (.int p5), .val (.int g0), .val (.int g1), .val (.int g2), .val (.ref a13), .val (.ref a17), .val (.ref a24), .val (.ref a29), .val (.int r34), .val (.int r35), .val (.int r36), .val (.ref a37), .val (.ref a29)]) rfl).aload at_181 rfl rfl).aload at_183 rfl rfl
  have k : W0 l Z n0 Q0 G s h39 5 17 188 #[.val (.int p0), .val (.int p1), .val (.int p2), .val (.int p3), .val (.int p4), .val (.int p5), .val (.int g0), .val (.int g1), .val (.int g2), .val (.ref a13), .val (.ref a17), .val (.ref a24), .val (.ref a29), .val (.int r34), .val (.int r35), .val (.int r36), .val (.ref a37), .val (.ref a29)] [] := k.acF at_185 rfl rfl (XT.aa_ne_f rfl)
  have k : W0 l Z n0 Q0 G s h39 5 17 194 #[.val (.int p0), .val (.int p1), .val (.int p2), .val (.int p3), .val (.int p4), .val (.int p5), .val (.int g0), .val (.int g1), .val (.int g2), .val (.ref a13), .val (.ref a17), .val (.ref a24), .val (.ref a29), .val (.int r34), .val (.int r35), .val (.int r36), .val (.ref a37), .val (.ref a29)] [(.int r34), (.int r34)] := (((k.aload at_188 rfl rfl).iconst (0) at_190 rfl).ldI B39 (by decide) rfl at_191).iload at_192 rfl
  have k : W0 l Z n0 Q0 G s h39 5 17 197 #[.val (.int p0), .val (.int p1), .val (.int p2), .val (.int p3), .val (.int p4), .val (.int p5), .val (.int g0), .val (.int g1), .val (.int g2), .val (.ref a13), .val (.ref a17), .val (.ref a24), .val (.ref a29), .val (.int r34), .val (.int r35), .val (.int r36), .val (.ref a37), .val (.ref a29)] [] := k.icF at_194 (XT.ii_ne_f rfl)
  have k : W0 l Z n0 Q0 G s h39 5 17 203 #[.val (.int p0), .val (.int p1), .val (.int p2), .val (.int p3), .val (.int p4), .val (.int p5), .val (.int g0), .val (.int g1), .val (.int g2), .val (.ref a13), .val (.ref a17), .val (.ref a24), .val (.ref a29), .val (.int r34), .val (.int r35), .val (.int r36), .val (.ref a37), .val (.ref a29)] [(.int r35), (.int r35)] := (((k.aload at_197 rfl rfl).iconst (1) at_199 rfl).ldI B39 (by decide) rfl at_200).iload at_201 rfl
  have k : W0 l Z n0 Q0 G s h39 5 17 206 #[.val (.int p0), .val (.int p1), .val (.int p2), .val (.int p3), .val (.int p4), .val (.int p5), .val (.int g0), .val (.int g1), .val (.int g2), .val (.ref a13), .val (.ref a17), .val (.ref a24), .val (.ref a29), .val (.int r34), .val (.int r35), .val (.int r36), .val (.ref a37), .val (.ref a29)] [] := k.icF at_203 (XT.ii_ne_f rfl)
  have k : W0 l Z n0 Q0 G s h39 5 17 212 #[.val (.int p0), .val (.int p1), .val (.int p2), .val (.int p3), .val (.int p4), .val (.int p5), .val (.int g0), .val (.int g1), .val (.int g2), .val (.ref a13), .val (.ref a17), .val (.ref a24), .val (.ref a29), .val (.int r34), .val (.int r35), .val (.int r36), .val (.ref a37), .val (.ref a29)] [(.int r36), (.int r36)] := (((k.aload at_206 rfl rfl).iconst (2) at_208 rfl).ldI B39 (by decide) rfl at_209).iload at_210 rfl
  have k : W0 l Z n0 Q0 G s h39 5 17 215 #[.val (.int p0), .val (.int p1), .val (.int p2), .val (.int p3), .val (.int p4), .val (.int p5), .val (.int g0), .val (.int g1), .val (.int g2), .val (.ref a13), .val (.ref a17), .val (.ref a24), .val (.ref a29), .val (.int r34), .val (.int r35), .val (.int r36), .val (.ref a37), .val (.ref a29)] [] := k.icF at_212 (XT.ii_ne_f rfl)
  have k : W0 l Z n0 Q0 G s h39 5 17 220 #[.val (.int p0), .val (.int p1), .val (.int p2), .val (.int p3), .val (.int p4), .val (.int p5), .val (.int g0), .val (.int g1), .val (.int g2), .val (.ref a13), .val (.ref a17), .val (.ref a24), .val (.ref a29), .val (.int r34), .val (.int r35), .val (.int r36), .val (.ref a37), .val (.ref a29)] [(.int p0), (.int p0)] := (((k.aload at_215 rfl rfl).iconst (3) at_217 rfl).ldI B39 (by decide) rfl at_218).iloadN at_219 rfl
  have k : W0 l Z n0 Q0 G s h39 5 17 223 #[.val (.int p0), .val (.int p1), .val (.int p2), .val (.int p3), .val (.int p4), .val (.int p5), .val (.int g0), .val (.int g1), .val (.int g2), .val (.ref a13), .val (.ref a17), .val (.ref a24), .val (.ref a29), .val (.int r34), .val (.int r35), .val (.int r36), .val (.ref a37), .val (.ref a29)] [] := k.icF at_220 (XT.ii_ne_f rfl)
  have k : W0 l Z n0 Q0 G s h39 5 17 229 #[.val (.int p0), .val (.int p1), .val (.int p2), .val (.int p3), .val (.int p4), .val (.int p5), .val (.int g0), .val (.int g1), .val (.int g2), .val (.ref a13), .val (.ref a17), .val (.ref a24), .val (.ref a29), .val (.int r34), .val (.int r35), .val (.int r36), .val (.ref a37), .val (.ref a29)] [(.int p4), (.int p4)] := (((k.aload at_223 rfl rfl).iconst (0) at_225 rfl).ldI A24 (by decide) rfl at_226).iload at_227 rfl
  have k : W0 l Z n0 Q0 G s h39 5 17 232 #[.val (.int p0), .val (.int p1), .val (.int p2), .val (.int p3), .val (.int p4), .val (.int p5), .val (.int g0), .val (.int g1), .val (.int g2), .val (.ref a13), .val (.ref a17), .val (.ref a24), .val (.ref a29), .val (.int r34), .val (.int r35), .val (.int r36), .val (.ref a37), .val (.ref a29)] [] := k.icF at_229 (XT.ii_ne_f rfl)
  have k : W0 l Z n0 Q0 G s h39 5 17 238 #[.val (.int p0), .val (.int p1), .val (.int p2), .val (.int p3), .val (.int p4), .val (.int p5), .val (.int g0), .val (.int g1), .val (.int g2), .val (.ref a13), .val (.ref a17), .val (.ref a24), .val (.ref a29), .val (.int r34), .val (.int r35), .val (.int r36), .val (.ref a37), .val (.ref a29)] [(.int p5), (.int p5)] := (((k.aload at_232 rfl rfl).iconst (1) at_234 rfl).ldI A24 (by decide) rfl at_235).iload at_236 rfl
  have k : W0 l Z n0 Q0 G s h39 5 17 241 #[.val (.int p0), .val (.int p1), .val (.int p2), .val (.int p3), .val (.int p4), .val (.int p5), .val (.int g0), .val (.int g1), .val (.int g2), .val (.ref a13), .val (.ref a17), .val (.ref a24), .val (.ref a29), .val (.int r34), .val (.int r35), .val (.int r36), .val (.ref a37), .val (.ref a29)] [] := k.icF at_238 (XT.ii_ne_f rfl)
  have k : W0 l Z n0 Q0 G s h39 5 17 249 #[.val (.int p0), .val (.int p1), .val (.int p2), .val (.int p3), .val (.int p4), .val (.int p5), .val (.int g0), .val (.int g1), .val (.int g2), .val (.ref a13), .val (.ref a17), .val (.ref a24), .val (.ref a29), .val (.int r34), .val (.int r35), .val (.int r36), .val (.ref a37), .val (.ref a29)] [(.int (p4 ^^^ (-1 : Int32))), (.int (p4 ^^^ (-1 : Int32)))] := (((((k.aload at_241 rfl rfl).iconst (2) at_243 rfl).ldI A24 (by decide) rfl at_244).iload at_245 rfl).iconst (-1) at_247 rfl).ixor at_248
  have k : W0 l Z n0 Q0 G s h39 5 17 252 #[.val (.int p0), .val (.int p1), .val (.int p2), .val (.int p3), .val (.int p4), .val (.int p5), .val (.int g0), .val (.int g1), .val (.int g2), .val (.ref a13), .val (.ref a17), .val (.ref a24), .val (.ref a29), .val (.int r34), .val (.int r35), .val (.int r36), .val (.ref a37), .val (.ref a29)] [] := k.icF at_249 (XT.ii_ne_f rfl)
  have k : W0 l Z n0 Q0 G s h39 5 17 260 #[.val (.int p0), .val (.int p1), .val (.int p2), .val (.int p3), .val (.int p4), .val (.int p5), .val (.int g0), .val (.int g1), .val (.int g2), .val (.ref a13), .val (.ref a17), .val (.ref a24), .val (.ref a29), .val (.int r34), .val (.int r35), .val (.int r36), .val (.ref a37), .val (.ref a29)] [(.int (p5 ^^^ (-1 : Int32))), (.int (p5 ^^^ (-1 : Int32)))] := (((((k.aload at_252 rfl rfl).iconst (3) at_254 rfl).ldI A24 (by decide) rfl at_255).iload at_256 rfl).iconst (-1) at_258 rfl).ixor at_259
  have k : W0 l Z n0 Q0 G s h39 5 17 263 #[.val (.int p0), .val (.int p1), .val (.int p2), .val (.int p3), .val (.int p4), .val (.int p5), .val (.int g0), .val (.int g1), .val (.int g2), .val (.ref a13), .val (.ref a17), .val (.ref a24), .val (.ref a29), .val (.int r34), .val (.int r35), .val (.int r36), .val (.ref a37), .val (.ref a29)] [] := k.icF at_260 (XT.ii_ne_f rfl)
  have k : W0 l Z n0 Q0 G s h39 5 17 268 #[.val (.int p0), .val (.int p1), .val (.int p2), .val (.int p3), .val (.int p4), .val (.int p5), .val (.int g0), .val (.int g1), .val (.int g2), .val (.ref a13), .val (.ref a17), .val (.ref a24), .val (.ref a29), .val (.int r34), .val (.int r35), .val (.int r36), .val (.ref a37), .val (.ref a29)] [(.int (1 : Int32))] := (k.iconst (1) at_263 rfl).goto (pc' := 268) at_264 (by decide)
  exact k.outZ (Or.inr rfl) at_268 (by decide) (by decide) rfl
set_option maxRecDepth 65536 in
set_option maxHeartbeats 40000000 in
theorem comes_1 {Post : Tables → Env → Array Value → State → Outcome → State → Prop} (hpost : ∀ tb e args s v u, (limb_1_1.after args s (.returned v) u = true ∧ limb_1_2.after args s (.returned v) u = true ∧ True) → FrameEnd s (.returned v) u (Jvm.fieldLocs frame_1_writes args s ++ Jvm.arrayLocs frame_1_arrays args s ++ Jvm.staticLocs frame_1_statics s) 24 128 → Post tb e args s (.returned v) u) :
    ArmFor flags0 classFile x code maxLocals ret World_1 tables_1 room_1 Calls_1 rest_1 Pre_1 Post := by
  intro l hfl _ _ p e ha hc hk s m args below hf hA hF happ hP
  obtain ⟨hcalls, hrest, hpre⟩ := hP
  obtain ⟨-, -, -, hnamed, -, -, -, hat⟩ := (Spec.applies_iff hf).mp happ
  obtain ⟨hg, hn⟩ := and_e (Cond.before_iff.mp (show (Jvm.Cond.and given_1 narrow_1).before args s = true from hpre))
  obtain ⟨h1, g0⟩ := and_e hg
  obtain ⟨w0, w1, w2, w3, w4, w5, rfl⟩ : ∃ w0 w1 w2 w3 w4 w5 : Value, args = #[w0, w1, w2, w3, w4, w5] := by
    have hs : args.size = 6 := by simpa [Cond.value, given_1] using h1
    obtain ⟨L⟩ := args
    match L, hs with
    | [w0, w1, w2, w3, w4, w5], _ => exact ⟨w0, w1, w2, w3, w4, w5, rfl⟩
  have hw := fun d (hd : d ∈ tables_1) => atoms_spec (ws := Jvm.Cond.code x code maxLocals ret :: tables_1) hat d (List.mem_cons_of_mem _ hd)
  obtain ⟨q0, g1⟩ := and_e g0
  obtain ⟨i0, e0⟩ := is_v q0
  obtain rfl : w0 = (.int i0) := Option.some.inj e0
  obtain ⟨q1, g2⟩ := and_e g1
  obtain ⟨i1, e1⟩ := is_v q1
  obtain rfl : w1 = (.int i1) := Option.some.inj e1
  obtain ⟨q2, g3⟩ := and_e g2
  obtain ⟨i2, e2⟩ := is_v q2
  obtain rfl : w2 = (.int i2) := Option.some.inj e2
  obtain ⟨q3, g4⟩ := and_e g3
  obtain ⟨i3, e3⟩ := is_v q3
  obtain rfl : w3 = (.int i3) := Option.some.inj e3
  obtain ⟨q4, g5⟩ := and_e g4
  obtain ⟨i4, e4⟩ := is_v q4
  obtain rfl : w4 = (.int i4) := Option.some.inj e4
  have q5 := g5
  obtain ⟨i5, e5⟩ := is_v q5
  obtain rfl : w5 = (.int i5) := Option.some.inj e5
  obtain ⟨n, o, h1, h2, h3, _, L, rfl, ⟨N, rfl⟩, hq⟩ := con0 l s _ hw i0 i1 i2 i3 i4 i5 s.heap s.heap.size (Nat.le_refl _) tables_1 p e ha hc hk s m _ below hf ((Spec.applies_iff_loose hf).mp happ).1 ⟨rfl, State.Warmed39.refl s, rfl⟩ trivial
  refine ⟨n, _, h1, h2, h3, hpost _ _ _ _ _ _ ⟨Cond.after_iff.mpr rfl, Cond.after_iff.mpr (eq_i res_at (Term.int_eval (1)) rfl), trivial⟩ ⟨hq.1, hq.2.1, (hq.2.2.sift fun y hy => Or.inr (N y hy)).mono (by decide) (by decide)⟩⟩
theorem main_1_1 : Claimed_1_1 := comes_1 fun _ _ _ _ _ _ h hF => ⟨h.1, hF⟩
theorem main_1_2 : Claimed_1_2 := comes_1 fun _ _ _ _ _ _ h hF => ⟨h.2.1, hF⟩
end Jvm.Pilot.@@N@@
namespace Jvm.Pilot.@@N@@
open Jvm Jvm.ClassFile Sem Op Lib Jvm.Free Jvm.Stand Jvm.Pilot.@@N@@.Jvm.D
/-! MADE BY PROGRAM (witnessworld.py) out of the Statement's table words and the real class files: 10 classes; the members and pool entries that the words name. The judged class is class 1, her method 3. -/
namespace start1
open Jvm.ClassFile
def u (s : String) : CpInfo := .utf8 (stringToUtf16 s)
/-- a pool by its gaps: so many unusable entries, then the entry; so many at the end -/
def gap : Nat → List CpInfo → List CpInfo
  | 0, r => r
  | n + 1, r => .unusable :: gap n r
def poolList (es : List (Nat × CpInfo)) (last : Nat) : List CpInfo := es.foldr (fun e r => gap e.1 (e.2 :: r)) (gap last [])
def pool (es : List (Nat × CpInfo)) (last : Nat) : Array CpInfo := ⟨poolList es last⟩
def fileOf (pool : Array CpInfo) (this : Nat) (attrs : Array Attribute := #[]) (ms : Array MethodInfo := #[]) (fl : Nat := 33) (sup : Nat := 0) (ifs : Array Nat := #[]) (fds : Array FieldInfo := #[]) : ClassFile where
  minorVersion := 0
  majorVersion := 65
  constantPool := pool
  accessFlags := fl
  thisClass := this
  superClass := sup
  interfaces := ifs
  fields := fds
  methods := ms
  attributes := attrs
def plain (name : String) (sup : Option ClassId) : Class where
  name := name
  kind := .ordinary
  loader := none
  accessFlags := 33
  super := sup
  interfaces := #[]
  cf := none
  fields := #[]
  methods := #[]
  instanceTypes := #[]
  staticTypes := #[]
  resolved := #[]
  callSites := []
  init := .initialized
  statics := none
  mirror := none

def pool0 : Array CpInfo := pool [(5, u "<init>"), (0, u "()V"), (1, .class_ 10), (1, u "java/lang/Object")] 113

def k0c0 : Code := { maxStack := 0, maxLocals := 1, code := object_method_1_code, exceptionTable := #[], attributes := #[] }
def k0m0 : Method := { name := "<init>", desc := "()V", sig := { parameters := [], returnType := none }, accessFlags := 1, code := some k0c0 }
/-- java/lang/Object -/
def k0 : Class := { plain "java/lang/Object" none with
  accessFlags := 33
  interfaces := #[]
  cf := some (fileOf pool0 8 #[] #[{ accessFlags := 1, nameIndex := 5, descriptorIndex := 6, attributes := #[] }] 33 0 #[] #[])
  fields := #[]
  methods := #[k0m0]
  instanceTypes := #[]
  staticTypes := #[]
  resolved := Array.replicate 124 none
  statics := none }

def pool1 : Array CpInfo := pool [(2, .class_ 4), (1, u "java/lang/Object"), (0, u "<init>"), (0, u "()V"), (0, .methodref 8 9), (0, .class_ 10), (0, .nameAndType 11 12), (0, u "com/example/chasewell/chasewell/engine/CompiledAtomInstantiatePinLaw"), (0, u "var"), (0, u "(I)I"), (0, .methodref 8 14), (0, .nameAndType 15 16), (0, u "expect"), (0, u "(IIII)I"), (0, .class_ 18), (0, u "com/example/chasewell/chasewell/engine/CompiledAtom"), (0, .methodref 17 20), (0, .nameAndType 5 21), (0, u "(I[I[I)V"), (0, .methodref 17 23), (0, .nameAndType 24 25), (0, u "instantiate"), (0, u "([I[I)[I"), (3, u "law"), (0, u "(IIIIII)Z")] 4

def k1m0 : Method := { name := "<init>", desc := "()V", sig := { parameters := [], returnType := none }, accessFlags := 1, code := none }
def k1c1 : Code := { maxStack := 2, maxLocals := 1, code := method_2_code, exceptionTable := #[], attributes := #[] }
def k1m1 : Method := { name := "var", desc := "(I)I", sig := { parameters := [.int], returnType := some .int }, accessFlags := 10, code := some k1c1 }
def k1c2 : Code := { maxStack := 2, maxLocals := 5, code := method_3_code, exceptionTable := #[], attributes := #[] }
def k1m2 : Method := { name := "expect", desc := "(IIII)I", sig := { parameters := [.int, .int, .int, .int], returnType := some .int }, accessFlags := 10, code := some k1c2 }
def k1c3 : Code := { maxStack := 5, maxLocals := 18, code := code, exceptionTable := #[], attributes := #[] }
def k1m3 : Method := { name := "law", desc := "(IIIIII)Z", sig := { parameters := [.int, .int, .int, .int, .int, .int], returnType := some .boolean }, accessFlags := 9, code := some k1c3 }
/-- com/example/chasewell/chasewell/engine/CompiledAtomInstantiatePinLaw -/
def k1 : Class := { plain "com/example/chasewell/chasewell/engine/CompiledAtomInstantiatePinLaw" (some 0) with
  accessFlags := 49
  interfaces := #[]
  cf := some (fileOf pool1 8 #[] #[{ accessFlags := 1, nameIndex := 5, descriptorIndex := 6, attributes := #[] }, { accessFlags := 10, nameIndex := 11, descriptorIndex := 12, attributes := #[] }, { accessFlags := 10, nameIndex := 15, descriptorIndex := 16, attributes := #[] }, { accessFlags := 9, nameIndex := 29, descriptorIndex := 30, attributes := #[] }] 49 2 #[] #[])
  fields := #[]
  methods := #[k1m0, k1m1, k1m2, k1m3]
  instanceTypes := #[]
  staticTypes := #[]
  resolved := Array.replicate 35 none
  statics := none }

def pool2 : Array CpInfo := pool [(1, .methodref 2 3), (0, .class_ 4), (0, .nameAndType 5 6), (0, u "java/lang/Object"), (0, u "<init>"), (0, u "()V"), (0, .class_ 8), (0, u "java/lang/Record")] 13

def k2c0 : Code := { maxStack := 1, maxLocals := 1, code := jdk_30_method_1_code, exceptionTable := #[], attributes := #[] }
def k2m0 : Method := { name := "<init>", desc := "()V", sig := { parameters := [], returnType := none }, accessFlags := 4, code := some k2c0 }
/-- java/lang/Record -/
def k2 : Class := { plain "java/lang/Record" (some 0) with
  accessFlags := 1057
  interfaces := #[]
  cf := some (fileOf pool2 7 #[] #[{ accessFlags := 4, nameIndex := 5, descriptorIndex := 6, attributes := #[] }] 1057 2 #[] #[])
  fields := #[]
  methods := #[k2m0]
  instanceTypes := #[]
  staticTypes := #[]
  resolved := Array.replicate 22 none
  statics := none }

def pool3 : Array CpInfo := pool [(1, .methodref 2 3), (0, .class_ 4), (0, .nameAndType 5 6), (0, u "java/lang/Record"), (0, u "<init>"), (0, u "()V"), (0, .fieldref 8 9), (0, .class_ 10), (0, .nameAndType 11 12), (0, u "com/example/chasewell/chasewell/engine/CompiledAtom"), (0, u "relation"), (0, u "I"), (0, .fieldref 8 14), (0, .nameAndType 15 16), (0, u "constants"), (0, u "[I"), (0, .fieldref 8 18), (0, .nameAndType 19 16), (0, u "variables"), (12, u "(I[I[I)V"), (3, u "instantiate"), (0, u "([I[I)[I")] 29

def k3c0 : Code := { maxStack := 2, maxLocals := 4, code := prog_4_method_1_code, exceptionTable := #[], attributes := #[] }
def k3m0 : Method := { name := "<init>", desc := "(I[I[I)V", sig := { parameters := [.int, (.array .int), (.array .int)], returnType := none }, accessFlags := 0, code := some k3c0 }
def k3c1 : Code := { maxStack := 5, maxLocals := 4, code := prog_4_method_2_code, exceptionTable := #[], attributes := #[] }
def k3m1 : Method := { name := "instantiate", desc := "([I[I)[I", sig := { parameters := [(.array .int), (.array .int)], returnType := some (.array .int) }, accessFlags := 0, code := some k3c1 }
/-- com/example/chasewell/chasewell/engine/CompiledAtom -/
def k3 : Class := { plain "com/example/chasewell/chasewell/engine/CompiledAtom" (some 2) with
  accessFlags := 48
  interfaces := #[]
  cf := some (fileOf pool3 8 #[] #[{ accessFlags := 0, nameIndex := 5, descriptorIndex := 32, attributes := #[] }, { accessFlags := 0, nameIndex := 36, descriptorIndex := 37, attributes := #[] }] 48 2 #[] #[{ accessFlags := 18, nameIndex := 11, descriptorIndex := 12, attributes := #[] }, { accessFlags := 18, nameIndex := 15, descriptorIndex := 16, attributes := #[] }, { accessFlags := 18, nameIndex := 19, descriptorIndex := 16, attributes := #[] }])
  fields := #[{ name := "relation", type := .int, accessFlags := 18, slot := 0, constantValue := 0 }, { name := "constants", type := (.array .int), accessFlags := 18, slot := 1, constantValue := 0 }, { name := "variables", type := (.array .int), accessFlags := 18, slot := 2, constantValue := 0 }]
  methods := #[k3m0, k3m1]
  instanceTypes := #[.int, (.array .int), (.array .int)]
  staticTypes := #[]
  resolved := Array.replicate 67 none
  statics := none }

def pool4 : Array CpInfo := pool [(1, u "java/lang/Cloneable"), (0, .class_ 1), (0, u "java/lang/Object"), (0, .class_ 3)] 3

/-- java/lang/Cloneable -/
def k4 : Class := { plain "java/lang/Cloneable" (some 0) with
  accessFlags := 1537
  interfaces := #[]
  cf := some (fileOf pool4 2 #[] #[] 1537 4 #[] #[])
  fields := #[]
  methods := #[]
  instanceTypes := #[]
  staticTypes := #[]
  resolved := Array.replicate 8 none
  statics := none }

def pool5 : Array CpInfo := pool [(1, u "java/io/Serializable"), (0, .class_ 1), (0, u "java/lang/Object"), (0, .class_ 3)] 3

/-- java/io/Serializable -/
def k5 : Class := { plain "java/io/Serializable" (some 0) with
  accessFlags := 1537
  interfaces := #[]
  cf := some (fileOf pool5 2 #[] #[] 1537 4 #[] #[])
  fields := #[]
  methods := #[]
  instanceTypes := #[]
  staticTypes := #[]
  resolved := Array.replicate 8 none
  statics := none }

/-- the primitive byte -/
def k6 : Class := { plain "byte" none with kind := .primitive 'B', accessFlags := 0x411 }
/-- [B -/
def k7 : Class := { plain "[B" (some 0) with kind := .array 6 .byte, interfaces := #[4, 5], accessFlags := 1041 }

/-- the primitive int -/
def k8 : Class := { plain "int" none with kind := .primitive 'I', accessFlags := 0x411 }
/-- [I -/
def k9 : Class := { plain "[I" (some 0) with kind := .array 8 .int, interfaces := #[4, 5], accessFlags := 1041 }

def heap : Heap := #[]
def classes : Array Class := #[k0, k1, k2, k3, k4, k5, k6, k7, k8, k9]
def interned : List (Array UInt16 × Addr) := []
def slotsUsed : Nat := 0
def theMethod : MethodId := ⟨1, 3⟩
def args0 : Array Value := #[.int 5, .int 7, .int 9, .int 1, .int 2, .int 3]
def aboutOver (below : List Frame) : State where
  vm := { classes := classes, interned := interned.toArray }
  heap := heap
  slotsUsed := slotsUsed
  threads := #[{ frames := .invoking theMethod args0 :: below }]
def below0 : List Frame := [.native { method := ⟨0, 0⟩, args := #[] }]
def about1 : State := aboutOver below0
def p0 : Program := .bare "" "" ""
def e0 : Env := launch0.env 0 0 0
theorem w_frames : about1.frames = Frame.invoking theMethod args0 :: below0 := rfl
set_option maxRecDepth 65536 in
theorem w_args : argsFit about1.vm theMethod args0 = true := by decide +kernel
set_option maxRecDepth 65536 in
theorem w_heap : heapFits about1 = true := by decide +kernel
set_option maxRecDepth 65536 in
theorem w_runnable : about1.curStatus? = some .runnable := by decide +kernel
set_option maxRecDepth 65536 in
theorem w_alone : about1.alone = true := by decide +kernel
set_option maxRecDepth 65536 in
theorem w_named : about1.methodNamed? x = some theMethod := by decide +kernel
set_option maxRecDepth 65536 in
theorem w_hears : about1.hears theMethod below0 = true := by decide +kernel
set_option maxRecDepth 65536 in
theorem w_ripe : about1.ripe theMethod args0 below0 = true := by decide +kernel
theorem w_running : about1.status = .running := rfl
set_option maxRecDepth 65536 in
theorem w_room : about1.hasRoom e0.platform room_1 = true :=
  launch0.hasRoom_least _ room_1 (by decide +kernel) (by decide +kernel) (by decide +kernel) (by decide +kernel) (by decide +kernel) (by decide +kernel)
theorem allAtoms_all (ts : List Jvm.Cond) (a : Array Jvm.Value) (st : Jvm.State) : (allAtoms ts).before a st = ts.all (fun c => c.before a st) := by
  induction ts with
  | nil => rfl
  | cons c t ih =>
    show (Jvm.Cond.and c (allAtoms t)).before a st = _
    rw [Jvm.Cond.before_and, ih, List.all_cons]
def words1 : List Jvm.Cond := Jvm.Cond.code x code maxLocals ret :: tables_1
/-- a 'code' word, met by the world's own term for the bytes: nothing is compared byte by byte -/
theorem code_word {y : MethodName} {bytes : ByteArray} {mx : Nat} {rt : Option FieldType} {a : Array Value} {s : State} {m : MethodId} {meth : Method} {c : Code} (h1 : s.methodNamed? y = some m) (h2 : s.vm.method? m = some meth) (h3 : meth.code = some c) (h4 : c.code = bytes)
    (h5 : (c.maxLocals == mx && c.exceptionTable.isEmpty && decide (c.maxStack ≤ mostOperands) && decide (meth.sig.returnType = rt) && !meth.locks && decide (parseMethodDescriptor y.desc = some meth.sig)) = true) : (Jvm.Cond.code y bytes mx rt).before a s = true := by
  simp only [Bool.and_eq_true, beq_iff_eq, Bool.not_eq_true', decide_eq_true_eq] at h5
  obtain ⟨⟨⟨⟨⟨g1, g2⟩, g3⟩, g4⟩, g5⟩, g6⟩ := h5
  simp [Cond.before, Cond.holds, Cond.value, h1, h2, h3, h4, g1, g2, g3, g4, g5, g6]
def isCode : Jvm.Cond → Bool
  | .code _ _ _ _ => true
  | _ => false
theorem all_split {L : List Jvm.Cond} {P : Jvm.Cond → Bool} (h1 : L.all (fun c => isCode c || P c) = true) (h2 : ∀ c ∈ L.filter isCode, P c = true) : L.all P = true := by
  refine List.all_eq_true.mpr fun c hc => ?_
  have h := List.all_eq_true.mp h1 c hc
  rcases Bool.eq_false_or_eq_true (isCode c) with hi | hi
  · exact h2 c (List.mem_filter.mpr ⟨hc, hi⟩)
  · simpa [hi] using h
set_option maxRecDepth 65536 in
theorem w_c0 : (Jvm.Cond.code x code maxLocals ret).before args0 about1 = true := code_word (m := ⟨1, 3⟩) (meth := k1m3) (c := k1c3) (by decide +kernel) rfl rfl rfl (by decide +kernel)
set_option maxRecDepth 65536 in
theorem w_c1 : (Jvm.Cond.code ({ cls := "com/example/chasewell/chasewell/engine/CompiledAtomInstantiatePinLaw", name := "var", desc := "(I)I" } : Jvm.MethodName) method_2_code (1 : Nat) (Option.some Jvm.ClassFile.FieldType.int)).before args0 about1 = true := code_word (m := ⟨1, 1⟩) (meth := k1m1) (c := k1c1) (by decide +kernel) rfl rfl rfl (by decide +kernel)
set_option maxRecDepth 65536 in
theorem w_c2 : (Jvm.Cond.code ({ cls := "com/example/chasewell/chasewell/engine/CompiledAtomInstantiatePinLaw", name := "expect", desc := "(IIII)I" } : Jvm.MethodName) method_3_code (5 : Nat) (Option.some Jvm.ClassFile.FieldType.int)).before args0 about1 = true := code_word (m := ⟨1, 2⟩) (meth := k1m2) (c := k1c2) (by decide +kernel) rfl rfl rfl (by decide +kernel)
set_option maxRecDepth 65536 in
theorem w_c3 : (Jvm.Cond.code ({ cls := "com/example/chasewell/chasewell/engine/CompiledAtom", name := "<init>", desc := "(I[I[I)V" } : Jvm.MethodName) prog_4_method_1_code (4 : Nat) (Option.none : Option Jvm.ClassFile.FieldType)).before args0 about1 = true := code_word (m := ⟨3, 0⟩) (meth := k3m0) (c := k3c0) (by decide +kernel) rfl rfl rfl (by decide +kernel)
set_option maxRecDepth 65536 in
theorem w_c4 : (Jvm.Cond.code ({ cls := "java/lang/Record", name := "<init>", desc := "()V" } : Jvm.MethodName) jdk_30_method_1_code (1 : Nat) (Option.none : Option Jvm.ClassFile.FieldType)).before args0 about1 = true := code_word (m := ⟨2, 0⟩) (meth := k2m0) (c := k2c0) (by decide +kernel) rfl rfl rfl (by decide +kernel)
set_option maxRecDepth 65536 in
theorem w_c5 : (Jvm.Cond.code ({ cls := "java/lang/Object", name := "<init>", desc := "()V" } : Jvm.MethodName) object_method_1_code (1 : Nat) (Option.none : Option Jvm.ClassFile.FieldType)).before args0 about1 = true := code_word (m := ⟨0, 0⟩) (meth := k0m0) (c := k0c0) (by decide +kernel) rfl rfl rfl (by decide +kernel)
set_option maxRecDepth 65536 in
theorem w_c6 : (Jvm.Cond.code ({ cls := "com/example/chasewell/chasewell/engine/CompiledAtom", name := "instantiate", desc := "([I[I)[I" } : Jvm.MethodName) prog_4_method_2_code (4 : Nat) (Option.some (Jvm.ClassFile.FieldType.array Jvm.ClassFile.FieldType.int))).before args0 about1 = true := code_word (m := ⟨3, 1⟩) (meth := k3m1) (c := k3c1) (by decide +kernel) rfl rfl rfl (by decide +kernel)
def codes1 : List Jvm.Cond := [Jvm.Cond.code x code maxLocals ret, Jvm.Cond.code ({ cls := "com/example/chasewell/chasewell/engine/CompiledAtomInstantiatePinLaw", name := "var", desc := "(I)I" } : Jvm.MethodName) method_2_code (1 : Nat) (Option.some Jvm.ClassFile.FieldType.int), Jvm.Cond.code ({ cls := "com/example/chasewell/chasewell/engine/CompiledAtomInstantiatePinLaw", name := "expect", desc := "(IIII)I" } : Jvm.MethodName) method_3_code (5 : Nat) (Option.some Jvm.ClassFile.FieldType.int), Jvm.Cond.code ({ cls := "com/example/chasewell/chasewell/engine/CompiledAtom", name := "<init>", desc := "(I[I[I)V" } : Jvm.MethodName) prog_4_method_1_code (4 : Nat) (Option.none : Option Jvm.ClassFile.FieldType), Jvm.Cond.code ({ cls := "java/lang/Record", name := "<init>", desc := "()V" } : Jvm.MethodName) jdk_30_method_1_code (1 : Nat) (Option.none : Option Jvm.ClassFile.FieldType), Jvm.Cond.code ({ cls := "java/lang/Object", name := "<init>", desc := "()V" } : Jvm.MethodName) object_method_1_code (1 : Nat) (Option.none : Option Jvm.ClassFile.FieldType), Jvm.Cond.code ({ cls := "com/example/chasewell/chasewell/engine/CompiledAtom", name := "instantiate", desc := "([I[I)[I" } : Jvm.MethodName) prog_4_method_2_code (4 : Nat) (Option.some (Jvm.ClassFile.FieldType.array Jvm.ClassFile.FieldType.int))]
set_option maxRecDepth 65536 in
theorem codes_eq : words1.filter isCode = codes1 := rfl
theorem w_codes : ∀ c ∈ words1.filter isCode, c.before args0 about1 = true := by
  rw [codes_eq]
  intro c hc
  simp only [codes1, List.mem_cons, List.not_mem_nil, or_false] at hc
  rcases hc with rfl | rfl | rfl | rfl | rfl | rfl | rfl
  · exact w_c0
  · exact w_c1
  · exact w_c2
  · exact w_c3
  · exact w_c4
  · exact w_c5
  · exact w_c6
set_option maxRecDepth 65536 in
theorem w_t1 : (words1.take 24).all (fun c => isCode c || c.before args0 about1) = true := by decide +kernel
set_option maxRecDepth 65536 in
theorem w_t2 : (words1.drop 24).all (fun c => isCode c || c.before args0 about1) = true := by decide +kernel
theorem w_tables : (allAtoms (Jvm.Cond.code x code maxLocals ret :: tables_1)).before args0 about1 = true := by
  rw [allAtoms_all]
  show words1.all (fun c => c.before args0 about1) = true
  refine all_split ?_ w_codes
  rw [← List.take_append_drop 24 words1, List.all_append, w_t1, w_t2]
  rfl
set_option maxRecDepth 65536 in
theorem w_case : (Jvm.Cond.and given_1 narrow_1).before args0 about1 = true := by decide +kernel
theorem w_applies : (headSpec (Jvm.Cond.code x code maxLocals ret :: tables_1) room_1).applies x e0.platform about1 = true :=
  (Spec.applies_iff w_frames).mpr ⟨w_running, w_runnable, w_alone, w_named, w_hears, w_ripe, w_room, w_tables⟩
theorem atStart : AtStart classFile x code maxLocals ret World_1 tables_1 room_1 Calls_1 rest_1 Pre_1 launch0 p0 e0 about1 theMethod args0 below0 :=
  ⟨lists_1, trivial, launch0.admits_env _ _ _, launch0.least_env, fairChoices_fair.cas, fairChoices_fair.clock, w_frames, w_args, w_heap, w_applies, trivial, trivial, w_case⟩
end start1
theorem witness_1 : WitnessClaimed_1 := ⟨start1.p0, start1.e0, start1.about1, start1.theMethod, start1.args0, start1.below0, start1.atStart⟩
end Jvm.Pilot.@@N@@
