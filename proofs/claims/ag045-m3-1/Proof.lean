import JvmDerived
import JvmDerived.Pilot.@@N@@Statement
import JvmDerived.Pilot.@@N@@Code
set_option linter.unusedVariables false
set_option linter.unusedSimpArgs false
namespace Jvm.Wk
open Sem ClassFile Op Lib Jvm.Stand Jvm.Free Jvm.LawKit Jvm.RoadKit
def Fin_ (p : Program) (e : Env) (s : State) (below : List Frame) (R : Room) (n0 : Nat) (P : Option Value → Heap → Prop) (S0 : State) : Prop :=
  ∃ s₂ o, Steps p.tables e below S0 s₂ ∧ s₂.status = .running ∧ Ended s₂ below o ∧ ∃ v L, o = .returned v ∧ (Fr n0 L ∧ P v s₂.heap) ∧ FrameEnd s o s₂ L R.cells R.slots
def Fa (Z : State) (y : MethodName) (bytes : ByteArray) (maxL : Nat) (ret : Option FieldType) (p : Program) (s : State) (m : MethodId) (meth : Method) (c : Code) : Prop :=
  p.tables.exec = Jvm.exec ∧ c.code = bytes ∧ c.maxLocals = maxL ∧ Z.Warmed39 s.vm ∧ s.vm.findClass y.cls = some m.cls ∧ meth.name = y.name ∧ meth.sig.returnType = ret ∧ meth.locks = false
/-- a walk that has come to pc with these locals and this operand stack over the heap h; G: what it is walked for -/
def Wk (l : Launch) (Z : State) (R : Room) (y : MethodName) (bytes : ByteArray) (maxL : Nat) (ret : Option FieldType) (n0 : Nat) (Xt : Program → Env → List Frame → State → Prop) (s : State) (h : Heap) (cells slots pc : Nat) (Ls : Array Slot) (st : List Value) : Prop :=
  ∃ (p : Program) (e : Env) (m : MethodId) (args : Array Value) (below : List Frame) (meth : Method) (c : Code) (S0 T : State) (locs : List Loc), Fa Z y bytes maxL ret p s m meth c ∧
    Stand p l e R s m args below meth c T locs cells slots ∧ T.heap = h ∧ Fr n0 locs ∧ (∀ t, Steps p.tables e below (T.setTop (mkF m pc Ls st)) t → Steps p.tables e below S0 t) ∧ Xt p e below S0
/-- how a walk of a contract ends: G is what it is walked for -/
abbrev Ex (s : State) (R : Room) (n0 : Nat) (P : Option Value → Heap → Prop) (G : Prop) : Program → Env → List Frame → State → Prop := fun p e below S0 => Fin_ p e s below R n0 P S0 → G
/-- a callee's contract: entered with the arguments as' over the heap h0 it returns; P says what and over which heap -/
def Con (l : Launch) (Z : State) (y : MethodName) (bytes : ByteArray) (maxL : Nat) (ret : Option FieldType) (rm : Room) (as' : Array Value) (h0 : Heap) (n0 : Nat) (P : Option Value → Heap → Prop) : Prop :=
  ∀ ws : List Jvm.Cond, MetFree l y (head1 (Jvm.Cond.code y bytes maxL ret :: ws) rm) (fun a U => a = as' ∧ Z.Warmed39 U.vm ∧ U.heap = h0) (fun _ _ _ _ _ => True) (fun _ U o U' => ∃ v L, o = .returned v ∧ (Fr n0 L ∧ P v U'.heap) ∧ FrameEnd U o U' L rm.cells rm.slots)
/-- an array of the component type ty that holds vs -/
def AV (Z : State) (h : Heap) (a : Addr) (ty : FieldType) (vs : List Value) : Prop := vs.length < 2 ^ 31 ∧ ∃ c : Cell, Arr Z h a c ty ∧ c.slots = vs.toArray
section L
variable {l : Launch} {Z : State} {R : Room} {y : MethodName} {bytes : ByteArray} {maxL : Nat} {ret : Option FieldType} {n0 : Nat} {P : Option Value → Heap → Prop} {G : Prop} {Xt : Program → Env → List Frame → State → Prop} {s : State} {h h' : Heap} {cells slots pc : Nat} {Ls : Array Slot} {st : List Value} {a0 : Array Value} {a : Addr} {ty : FieldType} {vs : List Value} {ws : List Addr}
theorem AV.lt (A : AV Z h a ty vs) : a < h.size := by obtain ⟨-, c, A, -⟩ := A; exact A.lt
theorem AV.keep (A : AV Z h a ty vs) (K : Keep h h' ws) (q : a ∉ ws) : AV Z h' a ty vs := by obtain ⟨n, c, A, r⟩ := A; exact ⟨n, c, ⟨K.2.1 a c A.1 q, A.2⟩, r⟩
theorem nS {x y : Nat} {L : List Addr} (q : ¬ x = y) (r : (x : Addr) ∉ L) : (x : Addr) ∉ (y : Addr) :: L := ninS q r
theorem Keep.of_ext (E : Ext h h') : Keep h h' [] := (Keep.refl h []).ext E
theorem mk {p : Program} {e : Env} {m : MethodId} {args : Array Value} {below : List Frame} {meth : Method} {c : Code} {S0 T : State} {locs : List Loc} (F : Fa Z y bytes maxL ret p s m meth c)
    (X : Stand p l e R s m args below meth c T locs cells slots) (eT : T.heap = h) (N : Fr n0 locs) (r : ∀ t, Steps p.tables e below (T.setTop (mkF m pc Ls st)) t → Steps p.tables e below S0 t) (ex : Xt p e below S0) : Wk l Z R y bytes maxL ret n0 Xt s h cells slots pc Ls st :=
  Exists.intro p ⟨e, m, args, below, meth, c, S0, T, locs, F, X, eT, N, r, ex⟩
theorem Con.of {as' : Array Value} (hpn : plainFor y = true) (hef : ∀ m, entryFrame m as' maxL = mkF m 0 Ls []) (body : ∀ (G : Prop) (s : State), Wk l Z R y bytes maxL ret n0 (Ex s R n0 P G) s h 0 0 0 Ls [] → G) : Con l Z y bytes maxL ret R as' h n0 P := by
  intro ws
  refine MetFree.of_bodySF hpn hisR ?_
  intro p e s m args below meth c s₁ Bd hml0 hP hK
  obtain ⟨rfl, hZ, hh⟩ := hP
  refine body _ s ?_
  have X0 : Stand p l e R s m args below meth c s₁ [] 0 0 := Stand.of_body Bd
  exact mk (S0 := s₁.setTop (entryFrame m args maxL)) ⟨Bd.exec, Bd.bytes, hml0, hZ, findClass_of_methodNamed Bd.named, (name_of_methodNamed Bd.named Bd.method).1, Bd.returns, Bd.notSynchronized⟩ X0 (by rw [← hh, Bd.state]; rfl) (Fr.nil n0) (fun t k => castTop (hef m) k) (fun q => q)
theorem Wk.pure {pc' : Nat} {Ls' : Array Slot} {st' : List Value} (k : Wk l Z R y bytes maxL ret n0 Xt s h cells slots pc Ls st) (f : ∀ {tb : Tables} [Ours tb] {e : Env} {below : List Frame} {T t : State} {m : MethodId} {c : Code}, At T m c below → tb.exec = Jvm.exec → c.code = bytes → Steps tb e below (T.setTop (mkF m pc' Ls' st')) t → Steps tb e below (T.setTop (mkF m pc Ls st)) t) : Wk l Z R y bytes maxL ret n0 Xt s h cells slots pc' Ls' st' := by
  obtain ⟨p, e, m, args, below, meth, c, S0, T, locs, F, X, eT, N, r, ex⟩ := k
  exact mk F X eT N (fun t q => r t (f X.here F.1 F.2.1 q)) ex
/-- more cells and slots booked than were made -/
theorem Wk.more {cells' slots' : Nat} (k : Wk l Z R y bytes maxL ret n0 Xt s h cells slots pc Ls st) (h1 : cells ≤ cells') (h2 : slots ≤ slots') : Wk l Z R y bytes maxL ret n0 Xt s h cells' slots' pc Ls st := by
  obtain ⟨p, e, m, args, below, meth, c, S0, T, locs, F, X, eT, N, r, ex⟩ := k
  exact mk F { X with same := X.same.mono h1 h2 } eT N r ex
theorem Wk.aloadN {j : Fin 4} {v : Value} (k : Wk l Z R y bytes maxL ret n0 Xt s h cells slots pc Ls st) (hd : decode bytes pc = .ok (.aload_n j, 1)) (hl : Ls[j.val]? = some (.val v)) (hv : v.isRef = true) : Wk l Z R y bytes maxL ret n0 Xt s h cells slots (pc + 1) Ls (v :: st) := k.pure fun a hx hb' q => XS.aloadN a hx rfl (hb hb' hd) hl hv q
theorem Wk.aload {j : Nat} {v : Value} (k : Wk l Z R y bytes maxL ret n0 Xt s h cells slots pc Ls st) (hd : decode bytes pc = .ok (.aload j, 2)) (hl : Ls[j]? = some (.val v)) (hv : v.isRef = true) : Wk l Z R y bytes maxL ret n0 Xt s h cells slots (pc + 2) Ls (v :: st) := k.pure fun a hx hb' q => XS.aload a hx rfl (hb hb' hd) hl hv q
theorem Wk.iloadN {j : Fin 4} {v : Int32} (k : Wk l Z R y bytes maxL ret n0 Xt s h cells slots pc Ls st) (hd : decode bytes pc = .ok (.iload_n j, 1)) (hl : Ls[j.val]? = some (.val (.int v))) : Wk l Z R y bytes maxL ret n0 Xt s h cells slots (pc + 1) Ls (.int v :: st) := k.pure fun a hx hb' q => XS.iloadN a hx rfl (hb hb' hd) hl q
theorem Wk.iload {j : Nat} {v : Int32} (k : Wk l Z R y bytes maxL ret n0 Xt s h cells slots pc Ls st) (hd : decode bytes pc = .ok (.iload j, 2)) (hl : Ls[j]? = some (.val (.int v))) : Wk l Z R y bytes maxL ret n0 Xt s h cells slots (pc + 2) Ls (.int v :: st) := k.pure fun a hx hb' q => XS.iload a hx rfl (hb hb' hd) hl q
theorem Wk.lloadN {j : Fin 4} {v : Int64} (k : Wk l Z R y bytes maxL ret n0 Xt s h cells slots pc Ls st) (hd : decode bytes pc = .ok (.lload_n j, 1)) (hl : Ls[j.val]? = some (.val (.long v))) : Wk l Z R y bytes maxL ret n0 Xt s h cells slots (pc + 1) Ls (.long v :: st) := k.pure fun a hx hb' q => XT.lloadN a hx rfl (hb hb' hd) hl q
theorem Wk.lload {j : Nat} {v : Int64} (k : Wk l Z R y bytes maxL ret n0 Xt s h cells slots pc Ls st) (hd : decode bytes pc = .ok (.lload j, 2)) (hl : Ls[j]? = some (.val (.long v))) : Wk l Z R y bytes maxL ret n0 Xt s h cells slots (pc + 2) Ls (.long v :: st) := k.pure fun a hx hb' q => XT.lload a hx rfl (hb hb' hd) hl q
theorem Wk.istoreN {j : Fin 4} {v : Int32} {Ls' : Array Slot} (k : Wk l Z R y bytes maxL ret n0 Xt s h cells slots pc Ls (.int v :: st)) (hd : decode bytes pc = .ok (.istore_n j, 1)) (hl : storeLocals Ls j.val (.int v) = some Ls') : Wk l Z R y bytes maxL ret n0 Xt s h cells slots (pc + 1) Ls' st := k.pure fun a hx hb' q => XS.istoreN a hx rfl (hb hb' hd) rfl hl q
theorem Wk.istore {j : Nat} {v : Int32} {Ls' : Array Slot} (k : Wk l Z R y bytes maxL ret n0 Xt s h cells slots pc Ls (.int v :: st)) (hd : decode bytes pc = .ok (.istore j, 2)) (hl : storeLocals Ls j (.int v) = some Ls') : Wk l Z R y bytes maxL ret n0 Xt s h cells slots (pc + 2) Ls' st := k.pure fun a hx hb' q => XS.istore a hx rfl (hb hb' hd) rfl hl q
theorem Wk.lstoreN {j : Fin 4} {v : Int64} {Ls' : Array Slot} (k : Wk l Z R y bytes maxL ret n0 Xt s h cells slots pc Ls (.long v :: st)) (hd : decode bytes pc = .ok (.lstore_n j, 1)) (hl : storeLocals Ls j.val (.long v) = some Ls') : Wk l Z R y bytes maxL ret n0 Xt s h cells slots (pc + 1) Ls' st := k.pure fun a hx hb' q => XT.lstoreN a hx rfl (hb hb' hd) rfl hl q
theorem Wk.lstore {j : Nat} {v : Int64} {Ls' : Array Slot} (k : Wk l Z R y bytes maxL ret n0 Xt s h cells slots pc Ls (.long v :: st)) (hd : decode bytes pc = .ok (.lstore j, 2)) (hl : storeLocals Ls j (.long v) = some Ls') : Wk l Z R y bytes maxL ret n0 Xt s h cells slots (pc + 2) Ls' st := k.pure fun a hx hb' q => XT.lstore a hx rfl (hb hb' hd) rfl hl q
theorem Wk.astoreN {j : Fin 4} {v : Value} {Ls' : Array Slot} (k : Wk l Z R y bytes maxL ret n0 Xt s h cells slots pc Ls (v :: st)) (hd : decode bytes pc = .ok (.astore_n j, 1)) (hv : v.isRef = true) (hl : storeLocals Ls j.val v = some Ls') : Wk l Z R y bytes maxL ret n0 Xt s h cells slots (pc + 1) Ls' st := k.pure fun a hx hb' q => XS.astoreN a hx rfl (hb hb' hd) rfl hv hl q
theorem Wk.astore {j : Nat} {v : Value} {Ls' : Array Slot} (k : Wk l Z R y bytes maxL ret n0 Xt s h cells slots pc Ls (v :: st)) (hd : decode bytes pc = .ok (.astore j, 2)) (hv : v.isRef = true) (hl : storeLocals Ls j v = some Ls') : Wk l Z R y bytes maxL ret n0 Xt s h cells slots (pc + 2) Ls' st := k.pure fun a hx hb' q => XS.astore a hx rfl (hb hb' hd) rfl hv hl q
theorem Wk.iconst {i : Int} (k : Wk l Z R y bytes maxL ret n0 Xt s h cells slots pc Ls st) (v : Int32) (hd : decode bytes pc = .ok (.iconst i, 1)) (hv : Int32.ofInt i = v) : Wk l Z R y bytes maxL ret n0 Xt s h cells slots (pc + 1) Ls (.int v :: st) := k.pure fun a hx hb' q => XT.iconstV a hx rfl v (hb hb' hd) hv q
theorem Wk.bipush {i : Int} (k : Wk l Z R y bytes maxL ret n0 Xt s h cells slots pc Ls st) (v : Int32) (hd : decode bytes pc = .ok (.bipush i, 2)) (hv : (Int8.ofInt i).toInt32 = v) : Wk l Z R y bytes maxL ret n0 Xt s h cells slots (pc + 2) Ls (.int v :: st) := k.pure fun a hx hb' q => XT.bipushV a hx rfl v (hb hb' hd) hv q
theorem Wk.sipush {i : Int} (k : Wk l Z R y bytes maxL ret n0 Xt s h cells slots pc Ls st) (v : Int32) (hd : decode bytes pc = .ok (.sipush i, 3)) (hv : (Int16.ofInt i).toInt32 = v) : Wk l Z R y bytes maxL ret n0 Xt s h cells slots (pc + 3) Ls (.int v :: st) := k.pure fun a hx hb' q => XT.sipushV a hx rfl v (hb hb' hd) hv q
theorem Wk.lconst {i : Fin 2} (k : Wk l Z R y bytes maxL ret n0 Xt s h cells slots pc Ls st) (v : Int64) (hd : decode bytes pc = .ok (.lconst i, 1)) (hv : Int64.ofNat i = v) : Wk l Z R y bytes maxL ret n0 Xt s h cells slots (pc + 1) Ls (.long v :: st) := k.pure fun a hx hb' q => XT.lconstV a hx rfl v (hb hb' hd) hv q
theorem Wk.anull (k : Wk l Z R y bytes maxL ret n0 Xt s h cells slots pc Ls st) (hd : decode bytes pc = .ok (.aconst_null, 1)) : Wk l Z R y bytes maxL ret n0 Xt s h cells slots (pc + 1) Ls (.null :: st) := k.pure fun a hx hb' q => XS.aconstNull a hx rfl (hb hb' hd) q
theorem Wk.iadd {x z : Int32} (k : Wk l Z R y bytes maxL ret n0 Xt s h cells slots pc Ls (.int z :: .int x :: st)) (hd : decode bytes pc = .ok (.iadd, 1)) : Wk l Z R y bytes maxL ret n0 Xt s h cells slots (pc + 1) Ls (.int (x + z) :: st) := k.pure fun a hx hb' q => XS.iadd a hx rfl (hb hb' hd) rfl q
theorem Wk.isub {x z : Int32} (k : Wk l Z R y bytes maxL ret n0 Xt s h cells slots pc Ls (.int z :: .int x :: st)) (hd : decode bytes pc = .ok (.isub, 1)) : Wk l Z R y bytes maxL ret n0 Xt s h cells slots (pc + 1) Ls (.int (x - z) :: st) := k.pure fun a hx hb' q => XS.isub a hx rfl (hb hb' hd) rfl q
theorem Wk.imul {x z : Int32} (k : Wk l Z R y bytes maxL ret n0 Xt s h cells slots pc Ls (.int z :: .int x :: st)) (hd : decode bytes pc = .ok (.imul, 1)) : Wk l Z R y bytes maxL ret n0 Xt s h cells slots (pc + 1) Ls (.int (x * z) :: st) := k.pure fun a hx hb' q => XS.imul a hx rfl (hb hb' hd) rfl q
theorem Wk.iand {x z : Int32} (k : Wk l Z R y bytes maxL ret n0 Xt s h cells slots pc Ls (.int z :: .int x :: st)) (hd : decode bytes pc = .ok (.iand, 1)) : Wk l Z R y bytes maxL ret n0 Xt s h cells slots (pc + 1) Ls (.int (x &&& z) :: st) := k.pure fun a hx hb' q => XS.iand a hx rfl (hb hb' hd) rfl q
theorem Wk.ior {x z : Int32} (k : Wk l Z R y bytes maxL ret n0 Xt s h cells slots pc Ls (.int z :: .int x :: st)) (hd : decode bytes pc = .ok (.ior, 1)) : Wk l Z R y bytes maxL ret n0 Xt s h cells slots (pc + 1) Ls (.int (x ||| z) :: st) := k.pure fun a hx hb' q => XT.ior a hx rfl (hb hb' hd) rfl q
theorem Wk.ixor {x z : Int32} (k : Wk l Z R y bytes maxL ret n0 Xt s h cells slots pc Ls (.int z :: .int x :: st)) (hd : decode bytes pc = .ok (.ixor, 1)) : Wk l Z R y bytes maxL ret n0 Xt s h cells slots (pc + 1) Ls (.int (x ^^^ z) :: st) := k.pure fun a hx hb' q => XT.ixor a hx rfl (hb hb' hd) rfl q
theorem Wk.iushr {x z : Int32} (k : Wk l Z R y bytes maxL ret n0 Xt s h cells slots pc Ls (.int z :: .int x :: st)) (hd : decode bytes pc = .ok (.iushr, 1)) : Wk l Z R y bytes maxL ret n0 Xt s h cells slots (pc + 1) Ls (.int (XT.ushr x z) :: st) := k.pure fun a hx hb' q => XT.iushr a hx rfl (hb hb' hd) rfl q
theorem Wk.ladd {x z : Int64} (k : Wk l Z R y bytes maxL ret n0 Xt s h cells slots pc Ls (.long z :: .long x :: st)) (hd : decode bytes pc = .ok (.ladd, 1)) : Wk l Z R y bytes maxL ret n0 Xt s h cells slots (pc + 1) Ls (.long (x + z) :: st) := k.pure fun a hx hb' q => XT.ladd a hx rfl (hb hb' hd) rfl q
theorem Wk.lsub {x z : Int64} (k : Wk l Z R y bytes maxL ret n0 Xt s h cells slots pc Ls (.long z :: .long x :: st)) (hd : decode bytes pc = .ok (.lsub, 1)) : Wk l Z R y bytes maxL ret n0 Xt s h cells slots (pc + 1) Ls (.long (x - z) :: st) := k.pure fun a hx hb' q => XT.lsub a hx rfl (hb hb' hd) rfl q
theorem Wk.lmul {x z : Int64} (k : Wk l Z R y bytes maxL ret n0 Xt s h cells slots pc Ls (.long z :: .long x :: st)) (hd : decode bytes pc = .ok (.lmul, 1)) : Wk l Z R y bytes maxL ret n0 Xt s h cells slots (pc + 1) Ls (.long (x * z) :: st) := k.pure fun a hx hb' q => XT.lmul a hx rfl (hb hb' hd) rfl q
theorem Wk.land {x z : Int64} (k : Wk l Z R y bytes maxL ret n0 Xt s h cells slots pc Ls (.long z :: .long x :: st)) (hd : decode bytes pc = .ok (.land, 1)) : Wk l Z R y bytes maxL ret n0 Xt s h cells slots (pc + 1) Ls (.long (x &&& z) :: st) := k.pure fun a hx hb' q => XT.land a hx rfl (hb hb' hd) rfl q
theorem Wk.lor {x z : Int64} (k : Wk l Z R y bytes maxL ret n0 Xt s h cells slots pc Ls (.long z :: .long x :: st)) (hd : decode bytes pc = .ok (.lor, 1)) : Wk l Z R y bytes maxL ret n0 Xt s h cells slots (pc + 1) Ls (.long (x ||| z) :: st) := k.pure fun a hx hb' q => XT.lor a hx rfl (hb hb' hd) rfl q
theorem Wk.lxor {x z : Int64} (k : Wk l Z R y bytes maxL ret n0 Xt s h cells slots pc Ls (.long z :: .long x :: st)) (hd : decode bytes pc = .ok (.lxor, 1)) : Wk l Z R y bytes maxL ret n0 Xt s h cells slots (pc + 1) Ls (.long (x ^^^ z) :: st) := k.pure fun a hx hb' q => XT.lxor a hx rfl (hb hb' hd) rfl q
theorem Wk.lcmp {x z : Int64} (k : Wk l Z R y bytes maxL ret n0 Xt s h cells slots pc Ls (.long z :: .long x :: st)) (hd : decode bytes pc = .ok (.lcmp, 1)) : Wk l Z R y bytes maxL ret n0 Xt s h cells slots (pc + 1) Ls (.int (XT.cmpL x z) :: st) := k.pure fun a hx hb' q => XT.lcmp a hx rfl (hb hb' hd) rfl q
theorem Wk.lshl {x : Int64} {z : Int32} (k : Wk l Z R y bytes maxL ret n0 Xt s h cells slots pc Ls (.int z :: .long x :: st)) (hd : decode bytes pc = .ok (.lshl, 1)) : Wk l Z R y bytes maxL ret n0 Xt s h cells slots (pc + 1) Ls (.long (x <<< (z.toInt64 &&& 63)) :: st) := k.pure fun a hx hb' q => XT.lshl a hx rfl (hb hb' hd) rfl q
theorem Wk.lushr {x : Int64} {z : Int32} (k : Wk l Z R y bytes maxL ret n0 Xt s h cells slots pc Ls (.int z :: .long x :: st)) (hd : decode bytes pc = .ok (.lushr, 1)) : Wk l Z R y bytes maxL ret n0 Xt s h cells slots (pc + 1) Ls (.long (XT.ushrL x z) :: st) := k.pure fun a hx hb' q => XT.lushr a hx rfl (hb hb' hd) rfl q
theorem Wk.i2l {x : Int32} (k : Wk l Z R y bytes maxL ret n0 Xt s h cells slots pc Ls (.int x :: st)) (hd : decode bytes pc = .ok (.i2l, 1)) : Wk l Z R y bytes maxL ret n0 Xt s h cells slots (pc + 1) Ls (.long x.toInt64 :: st) := k.pure fun a hx hb' q => XT.i2l a hx rfl (hb hb' hd) rfl q
theorem Wk.l2i {x : Int64} (k : Wk l Z R y bytes maxL ret n0 Xt s h cells slots pc Ls (.long x :: st)) (hd : decode bytes pc = .ok (.l2i, 1)) : Wk l Z R y bytes maxL ret n0 Xt s h cells slots (pc + 1) Ls (.int x.toInt32 :: st) := k.pure fun a hx hb' q => XT.l2i a hx rfl (hb hb' hd) rfl q
theorem Wk.i2b {x : Int32} (k : Wk l Z R y bytes maxL ret n0 Xt s h cells slots pc Ls (.int x :: st)) (hd : decode bytes pc = .ok (.i2b, 1)) : Wk l Z R y bytes maxL ret n0 Xt s h cells slots (pc + 1) Ls (.int x.toInt8.toInt32 :: st) := k.pure fun a hx hb' q => XT.i2b a hx rfl (hb hb' hd) rfl q
theorem Wk.i2c {x : Int32} (k : Wk l Z R y bytes maxL ret n0 Xt s h cells slots pc Ls (.int x :: st)) (hd : decode bytes pc = .ok (.i2c, 1)) : Wk l Z R y bytes maxL ret n0 Xt s h cells slots (pc + 1) Ls (.int x.toUInt32.toUInt16.toUInt32.toInt32 :: st) := k.pure fun a hx hb' q => XT.i2c a hx rfl (hb hb' hd) rfl q
theorem Wk.dup {x : Value} (k : Wk l Z R y bytes maxL ret n0 Xt s h cells slots pc Ls (x :: st)) (hd : decode bytes pc = .ok (.dup, 1)) (hc : x.category = 1) : Wk l Z R y bytes maxL ret n0 Xt s h cells slots (pc + 1) Ls (x :: x :: st) := k.pure fun a hx hb' q => XS.dup a hx rfl (hb hb' hd) rfl hc q
theorem Wk.pop {x : Value} (k : Wk l Z R y bytes maxL ret n0 Xt s h cells slots pc Ls (x :: st)) (hd : decode bytes pc = .ok (.pop, 1)) (hc : x.category = 1) : Wk l Z R y bytes maxL ret n0 Xt s h cells slots (pc + 1) Ls st := k.pure fun a hx hb' q => XT.pop a hx rfl (hb hb' hd) rfl hc q
theorem Wk.iinc {j : Nat} {i : Int} {x : Int32} {Ls' : Array Slot} (k : Wk l Z R y bytes maxL ret n0 Xt s h cells slots pc Ls st) (v : Int32) (hd : decode bytes pc = .ok (.iinc j i, 3)) (hv : Int32.ofInt i = v) (hl : Ls[j]? = some (.val (.int x))) (hl' : storeLocals Ls j (.int (x + v)) = some Ls') : Wk l Z R y bytes maxL ret n0 Xt s h cells slots (pc + 3) Ls' st := k.pure fun a hx hb' q => XT.iincV a hx rfl v (hb hb' hd) hv hl hl' q
theorem Wk.goto {o : Int} {pc' : Nat} (k : Wk l Z R y bytes maxL ret n0 Xt s h cells slots pc Ls st) (hd : decode bytes pc = .ok (.goto o, 3)) (hp : 0 ≤ (pc : Int) + o ∧ ((pc : Int) + o).toNat = pc') : Wk l Z R y bytes maxL ret n0 Xt s h cells slots pc' Ls st := k.pure fun a hx hb' q => XS.goto a hx rfl (pc0 := pc) (pc' := pc') rfl (hb hb' hd) hp.1 hp.2 q
theorem Wk.ifT {x : Int32} {cd : ClassFile.Cond} {o : Int} {pc' : Nat} (k : Wk l Z R y bytes maxL ret n0 Xt s h cells slots pc Ls (.int x :: st)) (hd : decode bytes pc = .ok (.ifCond cd o, 3)) (hc : ifCond.holds cd x = true) (hp : 0 ≤ (pc : Int) + o ∧ ((pc : Int) + o).toNat = pc') : Wk l Z R y bytes maxL ret n0 Xt s h cells slots pc' Ls st := k.pure fun a hx hb' q => XS.ifYes a hx rfl (pc0 := pc) (pc' := pc') rfl (hb hb' hd) rfl hc hp.1 hp.2 q
theorem Wk.ifF {x : Int32} {cd : ClassFile.Cond} {o : Int} (k : Wk l Z R y bytes maxL ret n0 Xt s h cells slots pc Ls (.int x :: st)) (hd : decode bytes pc = .ok (.ifCond cd o, 3)) (hc : ifCond.holds cd x = false) : Wk l Z R y bytes maxL ret n0 Xt s h cells slots (pc + 3) Ls st := k.pure fun a hx hb' q => XS.ifNo a hx rfl (hb hb' hd) rfl hc q
theorem Wk.icT {x z : Int32} {cd : ClassFile.Cond} {o : Int} {pc' : Nat} (k : Wk l Z R y bytes maxL ret n0 Xt s h cells slots pc Ls (.int z :: .int x :: st)) (hd : decode bytes pc = .ok (.if_icmp cd o, 3)) (hc : if_icmp.holds cd x z = true) (hp : 0 ≤ (pc : Int) + o ∧ ((pc : Int) + o).toNat = pc') : Wk l Z R y bytes maxL ret n0 Xt s h cells slots pc' Ls st := k.pure fun a hx hb' q => XS.icmpYes a hx rfl (pc0 := pc) (pc' := pc') rfl (hb hb' hd) rfl hc hp.1 hp.2 q
theorem Wk.icF {x z : Int32} {cd : ClassFile.Cond} {o : Int} (k : Wk l Z R y bytes maxL ret n0 Xt s h cells slots pc Ls (.int z :: .int x :: st)) (hd : decode bytes pc = .ok (.if_icmp cd o, 3)) (hc : if_icmp.holds cd x z = false) : Wk l Z R y bytes maxL ret n0 Xt s h cells slots (pc + 3) Ls st := k.pure fun a hx hb' q => XS.icmpNo a hx rfl (hb hb' hd) rfl hc q
theorem Wk.acT {x z : Value} {cd : ClassFile.ACond} {o : Int} {pc' : Nat} (k : Wk l Z R y bytes maxL ret n0 Xt s h cells slots pc Ls (z :: x :: st)) (hd : decode bytes pc = .ok (.if_acmp cd o, 3)) (h1 : x.isRef = true) (h2 : z.isRef = true) (hc : XT.acmp cd x z = true) (hp : 0 ≤ (pc : Int) + o ∧ ((pc : Int) + o).toNat = pc') : Wk l Z R y bytes maxL ret n0 Xt s h cells slots pc' Ls st := k.pure fun a hx hb' q => XT.acmpYes a hx rfl (pc0 := pc) (pc' := pc') rfl (hb hb' hd) rfl h1 h2 hc hp.1 hp.2 q
theorem Wk.acF {x z : Value} {cd : ClassFile.ACond} {o : Int} (k : Wk l Z R y bytes maxL ret n0 Xt s h cells slots pc Ls (z :: x :: st)) (hd : decode bytes pc = .ok (.if_acmp cd o, 3)) (h1 : x.isRef = true) (h2 : z.isRef = true) (hc : XT.acmp cd x z = false) : Wk l Z R y bytes maxL ret n0 Xt s h cells slots (pc + 3) Ls st := k.pure fun a hx hb' q => XT.acmpNo a hx rfl (hb hb' hd) rfl h1 h2 hc q
theorem Wk.nnT {b : Addr} {o : Int} {pc' : Nat} (k : Wk l Z R y bytes maxL ret n0 Xt s h cells slots pc Ls (.ref b :: st)) (hd : decode bytes pc = .ok (.ifnonnull o, 3)) (hp : 0 ≤ (pc : Int) + o ∧ ((pc : Int) + o).toNat = pc') : Wk l Z R y bytes maxL ret n0 Xt s h cells slots pc' Ls st := k.pure fun a hx hb' q => XT.ifnonnullYes a hx rfl (pc0 := pc) (pc' := pc') rfl (hb hb' hd) rfl hp.1 hp.2 q
theorem Wk.nnF {o : Int} (k : Wk l Z R y bytes maxL ret n0 Xt s h cells slots pc Ls (.null :: st)) (hd : decode bytes pc = .ok (.ifnonnull o, 3)) : Wk l Z R y bytes maxL ret n0 Xt s h cells slots (pc + 3) Ls st := k.pure fun a hx hb' q => XT.ifnonnullNo a hx rfl (hb hb' hd) rfl q
theorem Wk.irem {x z : Int32} (k : Wk l Z R y bytes maxL ret n0 Xt s h cells slots pc Ls (.int z :: .int x :: st)) (hd : decode bytes pc = .ok (.irem, 1)) (hz : z ≠ 0) : Wk l Z R y bytes maxL ret n0 Xt s h cells slots (pc + 1) Ls (.int (x % z) :: st) := by
  obtain ⟨p, e, m, args, below, meth, c, S0, T, locs, F, X, eT, N, r, ex⟩ := k
  exact mk F X eT N (fun t q => r t (iremM X F.1 rfl (hb F.2.1 hd) rfl hz q)) ex
theorem Wk.ldc {i : Nat} {v : Int32} (k : Wk l Z R y bytes maxL ret n0 Xt s h cells slots pc Ls st) (w : (Jvm.Cond.constant y.cls i v).before a0 Z = true) (hd : decode bytes pc = .ok (.ldc i, 2)) : Wk l Z R y bytes maxL ret n0 Xt s h cells slots (pc + 2) Ls (.int v :: st) := by
  obtain ⟨p, e, m, args, below, meth, c, S0, T, locs, F, X, eT, N, r, ex⟩ := k
  exact mk F X eT N (fun t q => r t (X.ldcI F.1 F.2.2.2.2.1 (mvT F.2.2.2.1 w) rfl (hb F.2.1 hd) q)) ex
theorem Wk.ldc2 {i : Nat} {v : Int64} (k : Wk l Z R y bytes maxL ret n0 Xt s h cells slots pc Ls st) (w : (Jvm.Cond.constantLong y.cls i v).before a0 Z = true) (hd : decode bytes pc = .ok (.ldc2_w i, 3)) : Wk l Z R y bytes maxL ret n0 Xt s h cells slots (pc + 3) Ls (.long v :: st) := by
  obtain ⟨p, e, m, args, below, meth, c, S0, T, locs, F, X, eT, N, r, ex⟩ := k
  exact mk F X eT N (fun t q => r t (X.ldc2J F.1 F.2.2.2.2.1 (mvT F.2.2.2.1 w) rfl (hb F.2.1 hd) q)) ex
theorem Wk.getF {i : Nat} {O n d : String} {v : Value} (k : Wk l Z R y bytes maxL ret n0 Xt s h cells slots pc Ls (.ref a :: st)) (w : (Jvm.Cond.fieldLink y.cls i O n d).before a0 Z = true) (A : Fld Z h a O n d v) (hd : decode bytes pc = .ok (.getfield i, 3)) : Wk l Z R y bytes maxL ret n0 Xt s h cells slots (pc + 3) Ls (v :: st) := by
  obtain ⟨p, e, m, args, below, meth, c, S0, T, locs, F, X, eT, N, r, ex⟩ := k
  obtain ⟨T', X', e', q⟩ := RoadKit.getF X F.1 F.2.2.2.1 F.2.2.2.2.1 (host := "") (Or.inl w) Via.refl eT A (g := mkF m pc Ls (.ref a :: st)) rfl rfl (hb F.2.1 hd)
  exact mk F X' e' N (fun t u => r t (q t u)) ex
theorem Wk.getS {i : Nat} {O n d : String} {v : Value} (k : Wk l Z R y bytes maxL ret n0 Xt s h cells slots pc Ls st) (w : (Jvm.Cond.fieldLink y.cls i O n d).before a0 Z = true) (A : Sta Z h O n d v) (hd : decode bytes pc = .ok (.getstatic i, 3)) : Wk l Z R y bytes maxL ret n0 Xt s h cells slots (pc + 3) Ls (v :: st) := by
  obtain ⟨p, e, m, args, below, meth, c, S0, T, locs, F, X, eT, N, r, ex⟩ := k
  obtain ⟨T', X', e', q⟩ := RoadKit.getS X F.1 F.2.2.2.1 F.2.2.2.2.1 (host := "") w Via.refl eT A (g := mkF m pc Ls st) rfl (hb F.2.1 hd)
  exact mk F X' e' N (fun t u => r t (q t u)) ex
theorem Wk.putF {i kk : Nat} {O n d C : String} {v old : Value} (k : Wk l Z R y bytes maxL ret n0 Xt s h cells slots pc Ls (v :: .ref a :: st)) (w : (Jvm.Cond.fieldLink y.cls i O n d).before a0 Z = true) (A : Fld Z h a O n d old) (E : Exa Z h a C)
    (L : (Jvm.Cond.lays C O n d).before a0 Z = true ∨ ((Jvm.Cond.laysFinal C O n d).before a0 Z = true ∧ y.cls = O ∧ y.name = "<init>")) (wi : (Jvm.Cond.instantiable C kk).before a0 Z = true)
    (hty : parseFieldDescriptor d = some ty) (hn : narrow ty v = v) (hf : fits ty v = true) (hg : n0 ≤ a) (hd : decode bytes pc = .ok (.putfield i, 3)) :
    ∃ h', Wr h h' a (RoadKit.slotOf Z O n d) v ∧ Keep h h' [a] ∧ Fld Z h' a O n d v ∧ Exa Z h' a C ∧ Wk l Z R y bytes maxL ret n0 Xt s h' cells slots (pc + 3) Ls st := by
  obtain ⟨p, e, m, args, below, meth, c, S0, T, locs, F, X, eT, N, r, ex⟩ := k
  obtain ⟨T', h', X', e', W1, q⟩ := RoadKit.putF X F.1 F.2.2.2.1 F.2.2.2.2.1 (host := "") (Or.inl w) Via.refl eT A E (L.imp id fun z => ⟨z.1, z.2.1, F.2.2.2.2.2.1.trans z.2.2⟩) wi hty hn hf (g := mkF m pc Ls (v :: .ref a :: st)) rfl rfl (hb F.2.1 hd)
  exact ⟨h', W1, Keep.of_wr W1, A.same W1, E.wr W1, mk F X' e' (Fr.snoc X' N hg) (fun t u => r t (q t u)) ex⟩
theorem Wk.newO {i n : Nat} {C : String} (k : Wk l Z R y bytes maxL ret n0 Xt s h cells slots pc Ls st) (w : (Jvm.Cond.classLink y.cls i C).before a0 Z = true) (wi : (Jvm.Cond.instantiable C n).before a0 Z = true) (wz : (Jvm.Cond.initialized C).before a0 Z = true) (hd : decode bytes pc = .ok (.new i, 3)) (hc : cells + 1 ≤ R.cells) (hl : slots + n ≤ R.slots) :
    ∃ h', Keep h h' [] ∧ Exa Z h' h.size C ∧ (∀ {O nm d : String} {ty : FieldType}, Laid Z a0 C O nm d → parseFieldDescriptor d = some ty → Fld Z h' h.size O nm d (defaultValue ty)) ∧ Wk l Z R y bytes maxL ret n0 Xt s h' (cells + 1) (slots + n) (pc + 3) Ls (.ref h.size :: st) := by
  obtain ⟨p, e, m, args, below, meth, c, S0, T, locs, F, X, eT, N, r, ex⟩ := k
  obtain ⟨T', h', X', e', E, A, D, -, q⟩ := RoadKit.newO X F.1 F.2.2.2.1 F.2.2.2.2.1 w wi wz eT (g := mkF m pc Ls st) rfl (hb F.2.1 hd) hc hl
  exact ⟨h', Keep.of_ext E, A, D, mk F X' e' N (fun t u => r t (q t u)) ex⟩
theorem Wk.newA {n : Int32} {aty : ArrayType} (k : Wk l Z R y bytes maxL ret n0 Xt s h cells slots pc Ls (.int n :: st)) (w : (Jvm.Cond.arrayClass (newarray.typeOf aty)).before a0 Z = true) (hd : decode bytes pc = .ok (.newarray aty, 2)) (n' : Nat) (hN : n.toNatClampNeg = n') (hn : ¬ n < 0) (hm : n' ≤ 1000) (hc : cells + 1 ≤ R.cells) (hl : slots + n' ≤ R.slots) :
    ∃ h', Keep h h' [] ∧ AV Z h' h.size (newarray.typeOf aty) (List.replicate n' (defaultValue (newarray.typeOf aty))) ∧ Wk l Z R y bytes maxL ret n0 Xt s h' (cells + 1) (slots + n') (pc + 2) Ls (.ref h.size :: st) := by
  obtain ⟨p, e, m, args, below, meth, c, S0, T, locs, F, X, eT, N, r, ex⟩ := k
  obtain ⟨T', h', cA, X', e', E, A, q⟩ := newP X F.1 F.2.2.2.1 w eT (g := mkF m pc Ls (.int n :: st)) rfl (hb F.2.1 hd) rfl hn (cap := n') (Nat.le_of_eq hN) (by omega) hc hl
  refine ⟨h', Keep.of_ext E, ⟨by rw [List.length_replicate]; omega, _, A, ?_⟩, mk F X' e' N (fun t u => r t (q t u)) ex⟩
  subst hN; rfl
theorem AV.inb {c : Cell} {j : Int32} {i : Nat} (e : c.slots = vs.toArray) (h0 : ¬ j < 0) (hj : j.toNatClampNeg = i) (hi : i < vs.length) : ¬ (j < 0 ∨ c.slots.size ≤ j.toNatClampNeg) := by
  rintro (q | q)
  · exact h0 q
  · rw [e, hj, List.size_toArray] at q; omega
theorem AV.set {c : Cell} {i : Nat} {v : Value} (e : c.slots = vs.toArray) : (c.setSlot i v).slots = (vs.set i v).toArray := by
  show c.slots.setIfInBounds i v = _
  rw [e, List.setIfInBounds_toArray]
theorem Wk.stI {x j : Int32} (k : Wk l Z R y bytes maxL ret n0 Xt s h cells slots pc Ls (.int x :: .int j :: .ref a :: st)) (A : AV Z h a .int vs) (i : Nat) (hj : j.toNatClampNeg = i) (h0 : ¬ j < 0) (hi : i < vs.length) (hg : n0 ≤ a) (hd : decode bytes pc = .ok (.iastore, 1)) :
    ∃ h', Keep h h' [a] ∧ AV Z h' a .int (vs.set i (.int (x))) ∧ Wk l Z R y bytes maxL ret n0 Xt s h' cells slots (pc + 1) Ls st := by
  obtain ⟨p, e, m, args, below, meth, c, S0, T, locs, F, X, eT, N, r, ex⟩ := k
  obtain ⟨hlen, cl, A, hcl⟩ := A
  obtain ⟨T', h', X', e', W1, q⟩ := RoadKit.stI X F.1 F.2.2.2.1 eT A (AV.inb hcl h0 hj hi) (g := mkF m pc Ls (.int x :: .int j :: .ref a :: st)) rfl rfl (hb F.2.1 hd)
  refine ⟨h', Keep.of_wr W1, ⟨by rw [List.length_set]; exact hlen, _, A.same W1, ?_⟩, mk F X' e' (Fr.snoc X' N hg) (fun t u => r t (q t u)) ex⟩
  rw [hj]; exact AV.set hcl
theorem Wk.stB {x j : Int32} (k : Wk l Z R y bytes maxL ret n0 Xt s h cells slots pc Ls (.int x :: .int j :: .ref a :: st)) (A : AV Z h a .byte vs) (i : Nat) (hj : j.toNatClampNeg = i) (h0 : ¬ j < 0) (hi : i < vs.length) (hg : n0 ≤ a) (hd : decode bytes pc = .ok (.bastore, 1)) :
    ∃ h', Keep h h' [a] ∧ AV Z h' a .byte (vs.set i (.int (nar .byte x))) ∧ Wk l Z R y bytes maxL ret n0 Xt s h' cells slots (pc + 1) Ls st := by
  obtain ⟨p, e, m, args, below, meth, c, S0, T, locs, F, X, eT, N, r, ex⟩ := k
  obtain ⟨hlen, cl, A, hcl⟩ := A
  obtain ⟨T', h', X', e', W1, q⟩ := RoadKit.stB X F.1 F.2.2.2.1 eT A (AV.inb hcl h0 hj hi) (g := mkF m pc Ls (.int x :: .int j :: .ref a :: st)) rfl rfl (hb F.2.1 hd)
  refine ⟨h', Keep.of_wr W1, ⟨by rw [List.length_set]; exact hlen, _, A.same W1, ?_⟩, mk F X' e' (Fr.snoc X' N hg) (fun t u => r t (q t u)) ex⟩
  rw [hj]; exact AV.set hcl
theorem Wk.stC {x j : Int32} (k : Wk l Z R y bytes maxL ret n0 Xt s h cells slots pc Ls (.int x :: .int j :: .ref a :: st)) (A : AV Z h a .char vs) (i : Nat) (hj : j.toNatClampNeg = i) (h0 : ¬ j < 0) (hi : i < vs.length) (hg : n0 ≤ a) (hd : decode bytes pc = .ok (.castore, 1)) :
    ∃ h', Keep h h' [a] ∧ AV Z h' a .char (vs.set i (.int (nar .char x))) ∧ Wk l Z R y bytes maxL ret n0 Xt s h' cells slots (pc + 1) Ls st := by
  obtain ⟨p, e, m, args, below, meth, c, S0, T, locs, F, X, eT, N, r, ex⟩ := k
  obtain ⟨hlen, cl, A, hcl⟩ := A
  obtain ⟨T', h', X', e', W1, q⟩ := RoadKit.stC X F.1 F.2.2.2.1 eT A (AV.inb hcl h0 hj hi) (g := mkF m pc Ls (.int x :: .int j :: .ref a :: st)) rfl rfl (hb F.2.1 hd)
  refine ⟨h', Keep.of_wr W1, ⟨by rw [List.length_set]; exact hlen, _, A.same W1, ?_⟩, mk F X' e' (Fr.snoc X' N hg) (fun t u => r t (q t u)) ex⟩
  rw [hj]; exact AV.set hcl
theorem Wk.ldI {j : Int32} {v : Value} (k : Wk l Z R y bytes maxL ret n0 Xt s h cells slots pc Ls (.int j :: .ref a :: st)) (A : AV Z h a .int vs) (h0 : ¬ j < 0) (hv : vs[j.toNatClampNeg]? = some v) (hd : decode bytes pc = .ok (.iaload, 1)) : Wk l Z R y bytes maxL ret n0 Xt s h cells slots (pc + 1) Ls (v :: st) := by
  obtain ⟨p, e, m, args, below, meth, c, S0, T, locs, F, X, eT, N, r, ex⟩ := k
  obtain ⟨hlen, cl, A, hcl⟩ := A
  have hi : j.toNatClampNeg < vs.length := (List.getElem?_eq_some_iff.mp hv).1
  exact mk F X eT N (fun t u => r t (X.iaload F.1 (j := j) (v := v) (by rw [eT]; exact A.1) (State.isArrayOf_alike F.2.2.2.1.alike A.2.1) A.2.2 (AV.inb hcl h0 rfl hi) (by rw [hcl, List.getElem?_toArray]; exact hv) (g := mkF m pc Ls (.int j :: .ref a :: st)) rfl rfl (hb F.2.1 hd) t u)) ex
theorem Wk.ldB {j : Int32} {v : Value} (k : Wk l Z R y bytes maxL ret n0 Xt s h cells slots pc Ls (.int j :: .ref a :: st)) (A : AV Z h a .byte vs) (h0 : ¬ j < 0) (hv : vs[j.toNatClampNeg]? = some v) (hd : decode bytes pc = .ok (.baload, 1)) : Wk l Z R y bytes maxL ret n0 Xt s h cells slots (pc + 1) Ls (v :: st) := by
  obtain ⟨p, e, m, args, below, meth, c, S0, T, locs, F, X, eT, N, r, ex⟩ := k
  obtain ⟨hlen, cl, A, hcl⟩ := A
  have hi : j.toNatClampNeg < vs.length := (List.getElem?_eq_some_iff.mp hv).1
  exact mk F X eT N (fun t u => r t (X.baloadBytes F.1 (j := j) (v := v) (by rw [eT]; exact A.1) (State.isArrayOf_alike F.2.2.2.1.alike A.2.1) A.2.2 (AV.inb hcl h0 rfl hi) (by rw [hcl, List.getElem?_toArray]; exact hv) (g := mkF m pc Ls (.int j :: .ref a :: st)) rfl rfl (hb F.2.1 hd) t u)) ex
theorem Wk.ldC {j : Int32} {v : Value} (k : Wk l Z R y bytes maxL ret n0 Xt s h cells slots pc Ls (.int j :: .ref a :: st)) (A : AV Z h a .char vs) (h0 : ¬ j < 0) (hv : vs[j.toNatClampNeg]? = some v) (hd : decode bytes pc = .ok (.caload, 1)) : Wk l Z R y bytes maxL ret n0 Xt s h cells slots (pc + 1) Ls (v :: st) := by
  obtain ⟨p, e, m, args, below, meth, c, S0, T, locs, F, X, eT, N, r, ex⟩ := k
  obtain ⟨hlen, cl, A, hcl⟩ := A
  have hi : j.toNatClampNeg < vs.length := (List.getElem?_eq_some_iff.mp hv).1
  exact mk F X eT N (fun t u => r t (X.caload F.1 (j := j) (v := v) (by rw [eT]; exact A.1) (State.isArrayOf_alike F.2.2.2.1.alike A.2.1) A.2.2 (AV.inb hcl h0 rfl hi) (by rw [hcl, List.getElem?_toArray]; exact hv) (g := mkF m pc Ls (.int j :: .ref a :: st)) rfl rfl (hb F.2.1 hd) t u)) ex
theorem Wk.len {n : Int32} (k : Wk l Z R y bytes maxL ret n0 Xt s h cells slots pc Ls (.ref a :: st)) (A : AV Z h a ty vs) (hn : vs.length.toInt32 = n) (hd : decode bytes pc = .ok (.arraylength, 1)) : Wk l Z R y bytes maxL ret n0 Xt s h cells slots (pc + 1) Ls (.int n :: st) := by
  obtain ⟨p, e, m, args, below, meth, c, S0, T, locs, F, X, eT, N, r, ex⟩ := k
  obtain ⟨hlen, cl, A, hcl⟩ := A
  have e : cl.slots.size.toInt32 = n := by rw [hcl, List.size_toArray]; exact hn
  exact mk F X eT N (fun t u => r t (X.arraylength F.1 (cell := cl) (by rw [eT]; exact A.1) (State.isArrayOf_alike F.2.2.2.1.alike A.2.1) (g := mkF m pc Ls (.ref a :: st)) rfl rfl (hb F.2.1 hd) t (by rw [e]; exact u))) ex
theorem Wk.callS {i : Nat} {y' : MethodName} {bytes' : ByteArray} {maxL' : Nat} {ret' : Option FieldType} {rm : Room} {P' : Option Value → Heap → Prop} {argsL rest : List Value} (k : Wk l Z R y bytes maxL ret n0 Xt s h cells slots pc Ls st) (wl : (Jvm.Cond.methodLink y.cls i y').before a0 Z = true) (wt : (Jvm.Cond.static y').before a0 Z = true) (wi : (Jvm.Cond.initialized y'.cls).before a0 Z = true) (wc : (Jvm.Cond.code y' bytes' maxL' ret').before a0 Z = true)
    (hy : y'.cls ≠ "java/lang/invoke/MethodHandle" ∧ y'.cls ≠ "java/lang/invoke/VarHandle") (hC : Con l Z y' bytes' maxL' ret' rm argsL.toArray h n0 P') (hlen : ∀ sig, parseMethodDescriptor y'.desc = some sig → argsL.length = sig.parameters.length)
    (hd : decode bytes pc = .ok (.invokestatic i, 3)) (hst : st = argsL.reverse ++ rest) (hL : Ls.size = maxL) (W0 : Nat) (hW : (rest.map fun v => v.category).sum ≤ W0) (hf : rm.frames + 1 ≤ R.frames) (hl : W0 + (maxL' + 11) + rm.locals ≤ R.locals) (hc : cells + rm.cells ≤ R.cells) (hs : slots + rm.slots ≤ R.slots) : ∃ v h', P' v h' ∧ Wk l Z R y bytes maxL ret n0 Xt s h' (cells + rm.cells) (slots + rm.slots) (pc + 3) Ls (v.toList ++ rest) := by
  obtain ⟨p, e, m, args, below, meth, c, S0, T, locs, F, X, eT, N, r, ex⟩ := k
  obtain ⟨v, vm₁, ⟨T', L', k', n'⟩, -, X', ⟨Lc, hQ, l1, y1, z1⟩, q⟩ := Jvm.LawKit.callS X F.1 (y := y') F.2.2.2.2.1 (mvT F.2.2.2.1 wl) (mvT F.2.2.2.1 wt) (mvT F.2.2.2.1 wi) (mvT F.2.2.2.1 wc) hy (backOf (W := W0) (Q := fun v h L => Fr n0 L ∧ P' v h) (hC []) F.2.2.2.1 wc wi hf hl) (g := mkF m pc Ls st) rfl (by rw [F.2.2.1]; exact hL) (argsL := argsL) (rest := rest) hlen hst (by show 2 * 0 + _ ≤ _; omega) (hb F.2.1 hd) (fun _ _ => ⟨rfl, eT, hc, hs⟩)
  dsimp only [Pt.U, Pt.locs, Pt.cells, Pt.slots] at X' l1 y1 z1 q hQ
  subst l1 y1 z1
  exact ⟨v, T'.heap, hQ.2, mk F X' rfl (Fr.app N hQ.1) (fun t u => r t (q t u)) ex⟩
theorem Wk.callSN {i : Nat} {y' : MethodName} {bytes' : ByteArray} {maxL' : Nat} {ret' : Option FieldType} {rm : Room} {P' : Option Value → Heap → Prop} {argsL rest : List Value} {host : String} (k : Wk l Z R y bytes maxL ret n0 Xt s h cells slots pc Ls st) (wl : (Jvm.Cond.methodLinkNest y.cls i y' host).before a0 Z = true) (wt : (Jvm.Cond.static y').before a0 Z = true) (wi : (Jvm.Cond.initialized y'.cls).before a0 Z = true) (wc : (Jvm.Cond.code y' bytes' maxL' ret').before a0 Z = true)
    (hy : y'.cls ≠ "java/lang/invoke/MethodHandle" ∧ y'.cls ≠ "java/lang/invoke/VarHandle") (hC : Con l Z y' bytes' maxL' ret' rm argsL.toArray h n0 P') (hlen : ∀ sig, parseMethodDescriptor y'.desc = some sig → argsL.length = sig.parameters.length)
    (hd : decode bytes pc = .ok (.invokestatic i, 3)) (hst : st = argsL.reverse ++ rest) (hL : Ls.size = maxL) (W0 : Nat) (hW : (rest.map fun v => v.category).sum ≤ W0) (hf : rm.frames + 1 ≤ R.frames) (hl : W0 + (maxL' + 11) + rm.locals ≤ R.locals) (hc : cells + rm.cells ≤ R.cells) (hs : slots + rm.slots ≤ R.slots) : ∃ v h', P' v h' ∧ Wk l Z R y bytes maxL ret n0 Xt s h' (cells + rm.cells) (slots + rm.slots) (pc + 3) Ls (v.toList ++ rest) := by
  obtain ⟨p, e, m, args, below, meth, c, S0, T, locs, F, X, eT, N, r, ex⟩ := k
  obtain ⟨v, vm₁, ⟨T', L', k', n'⟩, -, X', ⟨Lc, hQ, l1, y1, z1⟩, q⟩ := RoadKit.callSN X F.1 (y := y') F.2.2.2.2.1 (Jvm.Cond.methodLinkNest_wide F.2.2.2.1 wl :) (mvT F.2.2.2.1 wt) (mvT F.2.2.2.1 wi) (mvT F.2.2.2.1 wc) hy (backOf (W := W0) (Q := fun v h L => Fr n0 L ∧ P' v h) (hC []) F.2.2.2.1 wc wi hf hl) (g := mkF m pc Ls st) rfl (by rw [F.2.2.1]; exact hL) (argsL := argsL) (rest := rest) hlen hst (by show 2 * 0 + _ ≤ _; omega) (hb F.2.1 hd) (fun _ _ => ⟨rfl, eT, hc, hs⟩)
  dsimp only [Pt.U, Pt.locs, Pt.cells, Pt.slots] at X' l1 y1 z1 q hQ
  subst l1 y1 z1
  exact ⟨v, T'.heap, hQ.2, mk F X' rfl (Fr.app N hQ.1) (fun t u => r t (q.trans u)) ex⟩
theorem Wk.callN {i : Nat} {y' : MethodName} {bytes' : ByteArray} {maxL' : Nat} {rm : Room} {P' : Option Value → Heap → Prop} {argsL rest : List Value} (k : Wk l Z R y bytes maxL ret n0 Xt s h cells slots pc Ls st) (hy1 : y'.name = "<init>") (wl : (Jvm.Cond.methodLink y.cls i y').before a0 Z = true) (wm : (Jvm.Cond.instanceMethod y').before a0 Z = true) (wi : (Jvm.Cond.initialized y'.cls).before a0 Z = true) (wc : (Jvm.Cond.code y' bytes' maxL' none).before a0 Z = true)
    (hy : y'.cls ≠ "java/lang/invoke/MethodHandle" ∧ y'.cls ≠ "java/lang/invoke/VarHandle") (hC : Con l Z y' bytes' maxL' none rm (.ref a :: argsL).toArray h n0 P') (hlen : ∀ sig, parseMethodDescriptor y'.desc = some sig → argsL.length = sig.parameters.length)
    (hd : decode bytes pc = .ok (.invokespecial i, 3)) (hst : st = argsL.reverse ++ .ref a :: rest) (hL : Ls.size = maxL) (W0 : Nat) (hW : (rest.map fun v => v.category).sum ≤ W0) (hf : rm.frames + 1 ≤ R.frames) (hl : W0 + (maxL' + 11) + rm.locals ≤ R.locals) (hc : cells + rm.cells ≤ R.cells) (hs : slots + rm.slots ≤ R.slots) : ∃ v h', P' v h' ∧ Wk l Z R y bytes maxL ret n0 Xt s h' (cells + rm.cells) (slots + rm.slots) (pc + 3) Ls (v.toList ++ rest) := by
  obtain ⟨p, e, m, args, below, meth, c, S0, T, locs, F, X, eT, N, r, ex⟩ := k
  obtain ⟨v, vm₁, ⟨T', L', k', n'⟩, -, X', ⟨Lc, hQ, l1, y1, z1⟩, q⟩ := X.specialBack F.1 (y := y') hy1 F.2.2.2.2.1 (mvT F.2.2.2.1 wl) (mvT F.2.2.2.1 wm) (mvT F.2.2.2.1 wc) hy (backOf (W := W0) (Q := fun v h L => Fr n0 L ∧ P' v h) (hC []) F.2.2.2.1 wc wi hf hl) (g := mkF m pc Ls st) rfl (by rw [F.2.2.1]; exact hL) (Steps.refl _) (a := a) (argsL := argsL) (rest := rest) hlen hst (by show 2 * 0 + _ ≤ _; omega) (hb F.2.1 hd) (fun _ _ => ⟨rfl, eT, hc, hs⟩)
  dsimp only [Pt.U, Pt.locs, Pt.cells, Pt.slots] at X' l1 y1 z1 q hQ
  subst l1 y1 z1
  exact ⟨v, T'.heap, hQ.2, mk F X' rfl (Fr.app N hQ.1) (fun t u => r t (q.trans u)) ex⟩
theorem Wk.callV {i : Nat} {y' : MethodName} {bytes' : ByteArray} {maxL' : Nat} {ret' : Option FieldType} {rm : Room} {P' : Option Value → Heap → Prop} {argsL rest : List Value} {C : String} (k : Wk l Z R y bytes maxL ret n0 Xt s h cells slots pc Ls st) (wl : (Jvm.Cond.methodLink y.cls i y').before a0 Z = true) (wd : (Jvm.Cond.declares y').before a0 Z = true) (wm : (Jvm.Cond.instanceMethod y').before a0 Z = true) (wsl : (Jvm.Cond.selects C y' y').before a0 Z = true) (hCy : C = y'.cls) (wi : (Jvm.Cond.initialized y'.cls).before a0 Z = true) (wc : (Jvm.Cond.code y' bytes' maxL' ret').before a0 Z = true)
    (hy : y'.cls ≠ "java/lang/invoke/MethodHandle" ∧ y'.cls ≠ "java/lang/invoke/VarHandle") (E : Exa Z h a C) (hC : Con l Z y' bytes' maxL' ret' rm (.ref a :: argsL).toArray h n0 P') (hlen : ∀ sig, parseMethodDescriptor y'.desc = some sig → argsL.length = sig.parameters.length)
    (hd : decode bytes pc = .ok (.invokevirtual i, 3)) (hst : st = argsL.reverse ++ .ref a :: rest) (hL : Ls.size = maxL) (W0 : Nat) (hW : (rest.map fun v => v.category).sum ≤ W0) (hf : rm.frames + 1 ≤ R.frames) (hl : W0 + (maxL' + 11) + rm.locals ≤ R.locals) (hc : cells + rm.cells ≤ R.cells) (hs : slots + rm.slots ≤ R.slots) : ∃ v h', P' v h' ∧ Wk l Z R y bytes maxL ret n0 Xt s h' (cells + rm.cells) (slots + rm.slots) (pc + 3) Ls (v.toList ++ rest) := by
  obtain ⟨p, e, m, args, below, meth, c, S0, T, locs, F, X, eT, N, r, ex⟩ := k
  subst hCy
  obtain ⟨cq, kq, q1, q2, q3⟩ := isOf F.2.2.2.1 eT E
  obtain ⟨v, vm₁, ⟨T', L', k', n'⟩, -, X', ⟨Lc, hQ, l1, y1, z1⟩, q⟩ := X.virtualBack F.1 (y := y') (z := y') F.2.2.2.2.1 (mvT F.2.2.2.1 wl) (mvT F.2.2.2.1 wd) (notFace_of_selects (args := #[]) (mvT F.2.2.2.1 wsl)) (mvT F.2.2.2.1 wsl) (mvT F.2.2.2.1 wm) hy (backOf (W := W0) (Q := fun v h L => Fr n0 L ∧ P' v h) (hC []) F.2.2.2.1 wc wi hf hl) q1 q3 (g := mkF m pc Ls st) rfl (by rw [F.2.2.1]; exact hL) (Steps.refl _) (argsL := argsL) (rest := rest) hlen hst (by show 2 * 0 + _ ≤ _; omega) (hb F.2.1 hd) (fun _ _ => ⟨rfl, eT, hc, hs⟩)
  dsimp only [Pt.U, Pt.locs, Pt.cells, Pt.slots] at X' l1 y1 z1 q hQ
  subst l1 y1 z1
  exact ⟨v, T'.heap, hQ.2, mk F X' rfl (Fr.app N hQ.1) (fun t u => r t (q.trans u)) ex⟩
theorem Wk.callP {i : Nat} {y' : MethodName} {bytes' : ByteArray} {maxL' : Nat} {ret' : Option FieldType} {rm : Room} {P' : Option Value → Heap → Prop} {argsL rest : List Value} {z : MethodName} (k : Wk l Z R y bytes maxL ret n0 Xt s h cells slots pc Ls st) (wl : (Jvm.Cond.methodLink y.cls i y').before a0 Z = true) (wm : (Jvm.Cond.instanceMethod y').before a0 Z = true) (wp : (Jvm.Cond.privateMethod y').before a0 Z = true) (wz : (Jvm.Cond.selects y'.cls z z).before a0 Z = true) (hz : z.cls = y'.cls) (wi : (Jvm.Cond.initialized y'.cls).before a0 Z = true) (wc : (Jvm.Cond.code y' bytes' maxL' ret').before a0 Z = true)
    (hy : y'.cls ≠ "java/lang/invoke/MethodHandle" ∧ y'.cls ≠ "java/lang/invoke/VarHandle") (E : Exa Z h a y'.cls) (hC : Con l Z y' bytes' maxL' ret' rm (.ref a :: argsL).toArray h n0 P') (hlen : ∀ sig, parseMethodDescriptor y'.desc = some sig → argsL.length = sig.parameters.length)
    (hd : decode bytes pc = .ok (.invokevirtual i, 3)) (hst : st = argsL.reverse ++ .ref a :: rest) (hL : Ls.size = maxL) (W0 : Nat) (hW : (rest.map fun v => v.category).sum ≤ W0) (hf : rm.frames + 1 ≤ R.frames) (hl : W0 + (maxL' + 11) + rm.locals ≤ R.locals) (hc : cells + rm.cells ≤ R.cells) (hs : slots + rm.slots ≤ R.slots) : ∃ v h', P' v h' ∧ Wk l Z R y bytes maxL ret n0 Xt s h' (cells + rm.cells) (slots + rm.slots) (pc + 3) Ls (v.toList ++ rest) := by
  obtain ⟨p, e, m, args, below, meth, c, S0, T, locs, F, X, eT, N, r, ex⟩ := k
  obtain ⟨cq, q1, q2⟩ := E.cell
  have hsz : (Jvm.Cond.selects y'.cls z z).before args s = true := mvT F.2.2.2.1 wz
  have hpv : s.PrivateAt y' := Jvm.Cond.privateMethod_at (mvP F.2.2.2.1 wp (args := #[]))
  have hsel : (Jvm.Cond.selects y'.cls y' y').before args s = true := by
    obtain ⟨c2, r2, m2, u1, u2, u3, u4, kP, u5, u6⟩ := Jvm.Cond.selects_spec hsz
    have u7 : s.vm.findClass z.cls = some m2.cls := findClass_of_methodNamed u3
    rw [hz] at u7
    exact selects_self_of_private u7 u5 u6 hpv (mvT F.2.2.2.1 wm) hy
  obtain ⟨v, vm₁, ⟨T', L', k', n'⟩, -, X', ⟨Lc, hQ, l1, y1, z1⟩, q⟩ := X.privateBack F.1 (y := y') F.2.2.2.2.1 (mvT F.2.2.2.1 wl) (mvT F.2.2.2.1 wm) hsel hpv (mvT F.2.2.2.1 wc) hy (backOf (W := W0) (Q := fun v h L => Fr n0 L ∧ P' v h) (hC []) F.2.2.2.1 wc wi hf hl) (g := mkF m pc Ls st) rfl (by rw [F.2.2.1]; exact hL) (Steps.refl _) (a := a) (by rw [eT]; exact q1) q2 (argsL := argsL) (rest := rest) hlen hst (by show 2 * 0 + _ ≤ _; omega) (hb F.2.1 hd) (fun _ _ => ⟨rfl, eT, hc, hs⟩)
  dsimp only [Pt.U, Pt.locs, Pt.cells, Pt.slots] at X' l1 y1 z1 q hQ
  subst l1 y1 z1
  exact ⟨v, T'.heap, hQ.2, mk F X' rfl (Fr.app N hQ.1) (fun t u => r t (q.trans u)) ex⟩
theorem Wk.tswIn {x : Int32} {dflt low high : Int} {offs : Array Int} {len : Nat} {o : Int} {pc' : Nat} (k : Wk l Z R y bytes maxL ret n0 Xt s h cells slots pc Ls (.int x :: st)) (hd : decode bytes pc = .ok (.tableswitch dflt low high offs, len)) (hin : ¬ (x.toInt < low ∨ x.toInt > high)) (hoff : offs[(x.toInt - low).toNat]? = some o) (hp : 0 ≤ (pc : Int) + o ∧ ((pc : Int) + o).toNat = pc') : Wk l Z R y bytes maxL ret n0 Xt s h cells slots pc' Ls st := k.pure fun a hx hb' q => XS.tswIn a hx rfl (pc0 := pc) (pc' := pc') rfl (hb hb' hd) rfl hin hoff hp.1 hp.2 q
theorem Wk.tswOut {x : Int32} {dflt low high : Int} {offs : Array Int} {len : Nat} {pc' : Nat} (k : Wk l Z R y bytes maxL ret n0 Xt s h cells slots pc Ls (.int x :: st)) (hd : decode bytes pc = .ok (.tableswitch dflt low high offs, len)) (hout : x.toInt < low ∨ x.toInt > high) (hp : 0 ≤ (pc : Int) + dflt ∧ ((pc : Int) + dflt).toNat = pc') : Wk l Z R y bytes maxL ret n0 Xt s h cells slots pc' Ls st := k.pure fun a hx hb' q => XS.tswOut a hx rfl (pc0 := pc) (pc' := pc') rfl (hb hb' hd) rfl hout hp.1 hp.2 q
theorem Wk.out {t : FieldType} {w : Value} {i : Instr} (k : Wk l Z R y bytes maxL (some t) n0 (Ex s R n0 P G) s h cells slots pc Ls (w :: st)) (hn : narrow t w = w)
    (hi : (i = .ireturn ∧ (t = .int ∨ t = .boolean ∨ t = .byte ∨ t = .char ∨ t = .short) ∧ ∃ z, w = .int z) ∨ (i = .lreturn ∧ t = .long ∧ ∃ z, w = .long z) ∨ (i = .dreturn ∧ t = .double ∧ ∃ z, w = .double z) ∨ (i = .freturn ∧ t = .float ∧ ∃ z, w = .float z) ∨ (i = .areturn ∧ t.isReference = true ∧ w.isRef = true))
    (hd : decode bytes pc = .ok (i, 1)) (hc : cells ≤ R.cells) (hs : slots ≤ R.slots) (hP : P (some w) h) : G := by
  obtain ⟨p, e, m, args, below, meth, c, S0, T, locs, F, X, eT, N, r, ex⟩ := k
  have hlk : meth.locks = false := F.2.2.2.2.2.2.2
  obtain ⟨fs, hr, hrun, hended, hW, hsame⟩ := X.leave (v := some w) (fun z => by rw [F.2.2.2.2.2.2.1] at z; cases z)
  refine ex ⟨_, _, r _ (retOut X F.1 F.2.2.2.2.2.2.1 hn hi (hb F.2.1 hd) hr), hrun, hended, _, locs, rfl, ⟨N, ?_⟩, ⟨_, rfl⟩, hW, hsame.mono hc hs⟩
  show P (some w) T.heap
  rw [eT]; exact hP
theorem Wk.outN (k : Wk l Z R y bytes maxL none n0 (Ex s R n0 P G) s h cells slots pc Ls []) (hd : decode bytes pc = .ok (.return_, 1)) (hc : cells ≤ R.cells) (hs : slots ≤ R.slots) (hP : P none h) : G := by
  obtain ⟨p, e, m, args, below, meth, c, S0, T, locs, F, X, eT, N, r, ex⟩ := k
  have hlk : meth.locks = false := F.2.2.2.2.2.2.2
  obtain ⟨fs, hr, hrun, hended, hW, hsame⟩ := X.leave (v := none) (fun _ => rfl)
  refine ex ⟨_, _, r _ (X.returnOut F.1 F.2.2.2.2.2.2.1 (hb F.2.1 hd) hr), hrun, hended, _, locs, rfl, ⟨N, ?_⟩, ⟨_, rfl⟩, hW, hsame.mono hc hs⟩
  show P none T.heap
  rw [eT]; exact hP
theorem Wk.outI {z : Int32} (k : Wk l Z R y bytes maxL (some .int) n0 (Ex s R n0 P G) s h cells slots pc Ls (.int z :: st)) (hd : decode bytes pc = .ok (.ireturn, 1)) (hc : cells ≤ R.cells) (hs : slots ≤ R.slots) (hP : P (some (.int z)) h) : G := k.out rfl (Or.inl ⟨rfl, Or.inl rfl, z, rfl⟩) hd hc hs hP
theorem Wk.outZ {z : Int32} (k : Wk l Z R y bytes maxL (some .boolean) n0 (Ex s R n0 P G) s h cells slots pc Ls (.int z :: st)) (hz : z = 0 ∨ z = 1) (hd : decode bytes pc = .ok (.ireturn, 1)) (hc : cells ≤ R.cells) (hs : slots ≤ R.slots) (hP : P (some (.int z)) h) : G := k.out (by rcases hz with rfl | rfl <;> rfl) (Or.inl ⟨rfl, Or.inr (Or.inl rfl), z, rfl⟩) hd hc hs hP
theorem Wk.outC {z : Int32} (k : Wk l Z R y bytes maxL (some .char) n0 (Ex s R n0 P G) s h cells slots pc Ls (.int z :: st)) (hz : z.toUInt32.toUInt16.toUInt32.toInt32 = z) (hd : decode bytes pc = .ok (.ireturn, 1)) (hc : cells ≤ R.cells) (hs : slots ≤ R.slots) (hP : P (some (.int z)) h) : G := k.out (congrArg Value.int hz) (Or.inl ⟨rfl, Or.inr (Or.inr (Or.inr (Or.inl rfl))), z, rfl⟩) hd hc hs hP
theorem Wk.outB {z : Int32} (k : Wk l Z R y bytes maxL (some .byte) n0 (Ex s R n0 P G) s h cells slots pc Ls (.int z :: st)) (hz : z.toInt8.toInt32 = z) (hd : decode bytes pc = .ok (.ireturn, 1)) (hc : cells ≤ R.cells) (hs : slots ≤ R.slots) (hP : P (some (.int z)) h) : G := k.out (congrArg Value.int hz) (Or.inl ⟨rfl, Or.inr (Or.inr (Or.inl rfl)), z, rfl⟩) hd hc hs hP
theorem Wk.outJ {z : Int64} (k : Wk l Z R y bytes maxL (some .long) n0 (Ex s R n0 P G) s h cells slots pc Ls (.long z :: st)) (hd : decode bytes pc = .ok (.lreturn, 1)) (hc : cells ≤ R.cells) (hs : slots ≤ R.slots) (hP : P (some (.long z)) h) : G := k.out rfl (Or.inr (Or.inl ⟨rfl, rfl, z, rfl⟩)) hd hc hs hP
theorem Wk.outA {w : Value} {t : FieldType} (k : Wk l Z R y bytes maxL (some t) n0 (Ex s R n0 P G) s h cells slots pc Ls (w :: st)) (ht : t.isReference = true) (hw : w.isRef = true) (hd : decode bytes pc = .ok (.areturn, 1)) (hc : cells ≤ R.cells) (hs : slots ≤ R.slots) (hP : P (some w) h) : G := k.out (by cases t <;> first | rfl | cases ht) (Or.inr (Or.inr (Or.inr (Or.inr ⟨rfl, ht, hw⟩)))) hd hc hs hP
end L
end Jvm.Wk
namespace Jvm.Wk
open Sem ClassFile Op Lib Jvm.Stand Jvm.Free Jvm.LawKit Jvm.RoadKit
section L3
variable {l : Launch} {Z : State} {R : Room} {y : MethodName} {bytes : ByteArray} {maxL : Nat} {ret : Option FieldType} {n0 : Nat} {P : Option Value → Heap → Prop} {G : Prop} {Xt : Program → Env → List Frame → State → Prop} {s : State} {h h' : Heap} {cells slots pc : Nat} {Ls : Array Slot} {st : List Value} {a0 : Array Value} {a b : Addr} {ty : FieldType} {vs vd : List Value} {ws : List Addr}
theorem getD_at {i : Nat} {d : Value} (hi : i < vs.length) : vs.getD i d = vs[i] := by
  rw [List.getD_eq_getElem?_getD, List.getElem?_eq_getElem hi]; rfl
theorem AV.of_arv {k : ClassId} {z : Int32} {d : Value} (B : Arv Z h a k ty z vs d) (hl : vs.length = z.toNatClampNeg) (hn : vs.length < 2 ^ 31) : AV Z h a ty vs := by
  obtain ⟨c, A, -, S, -, H, -⟩ := B
  refine ⟨hn, c, A, ?_⟩
  apply Array.ext
  · rw [S, List.size_toArray, hl]
  · intro i h1 h2
    have q := H i h1
    rw [Array.getElem?_eq_getElem h1] at q
    have hi : i < vs.length := by rw [hl, ← S]; exact h1
    rw [Option.some.inj q, getD_at hi]; rfl
theorem AV.uniq (A : AV Z h a ty vs) (B : AV Z h a ty vd) : vs = vd := by
  obtain ⟨-, c, A, e⟩ := A
  obtain ⟨-, d, B, f⟩ := B
  have := Option.some.inj (A.1.symm.trans B.1)
  subst this
  exact List.toArray_inj (e.symm.trans f)
theorem Fld.uniq {C n d : String} {v w : Value} (F : Fld Z h a C n d v) (E : Fld Z h a C n d w) : v = w := by
  obtain ⟨c1, cf, k, i, f, h1, h2, -, -, -, -, h3⟩ := F
  obtain ⟨c2, cf', k', i', f', g1, g2, -, -, -, -, g3⟩ := E
  cases Option.some.inj (h1.symm.trans g1)
  cases Option.some.inj (h2.symm.trans g2)
  exact Option.some.inj (h3.symm.trans g3)
abbrev FinW (p : Program) (e : Env) (s : State) (below : List Frame) (R : Room) (n0 : Nat) (P : Option Value → Heap → Prop) (S0 : State) : Prop :=
  ∃ s₂ o, Steps p.tables e below S0 s₂ ∧ s₂.status = .running ∧ Ended s₂ below o ∧ ∃ v L, o = .returned v ∧ (Fr n0 L ∧ P v s₂.heap) ∧ ReturnedEndW s o s₂ L R.cells R.slots
abbrev ExW (s : State) (R : Room) (n0 : Nat) (P : Option Value → Heap → Prop) (G : Prop) : Program → Env → List Frame → State → Prop := fun p e below S0 => FinW p e s below R n0 P S0 → G
def ConW (l : Launch) (Z : State) (y : MethodName) (bytes : ByteArray) (maxL : Nat) (ret : Option FieldType) (rm : Room) (as' : Array Value) (n0 : Nat) (P : Option Value → Heap → Prop) : Prop :=
  ∀ ws : List Jvm.Cond, MetFree l y (head1 (Jvm.Cond.code y bytes maxL ret :: ws) rm) (fun a U => a = as' ∧ U = Z) (fun _ _ _ _ _ => True) (fun _ U o U' => ∃ v L, o = .returned v ∧ (Fr n0 L ∧ P v U'.heap) ∧ ReturnedEndW U o U' L rm.cells rm.slots)
theorem ConW.of {as' : Array Value} (hpn : plainFor y = true) (hef : ∀ m, entryFrame m as' maxL = mkF m 0 Ls []) (body : ∀ (G : Prop), Wk l Z R y bytes maxL ret n0 (ExW Z R n0 P G) (Z.setVm Z.vm) Z.heap 0 0 0 Ls [] → G) : ConW l Z y bytes maxL ret R as' n0 P := by
  intro ws
  refine MetFree.of_bodySF hpn hisR ?_
  intro p e s m args below meth c s₁ Bd hml0 hP hK
  obtain ⟨rfl, rfl⟩ := hP
  refine body _ ?_
  have X0 : Stand p l e R s m args below meth c s₁ [] 0 0 := Stand.of_body Bd
  exact mk (s := s.setVm s.vm) (S0 := s₁.setTop (entryFrame m args maxL)) ⟨Bd.exec, Bd.bytes, hml0, State.Warmed39.refl s, findClass_of_methodNamed Bd.named, (name_of_methodNamed Bd.named Bd.method).1, Bd.returns, Bd.notSynchronized⟩ X0 (by rw [Bd.state]; rfl) (Fr.nil n0) (fun t k => castTop (hef m) k) (fun q => q)
theorem Wk.ldcS {vm0 : Vm} {k0 i n : Nat} {Ts : List String} {text : String} {z : Int32} (k : Wk l Z R y bytes maxL ret n0 (ExW Z R n0 P G) (Z.setVm vm0) h cells slots pc Ls st) (w : (Jvm.Cond.stringLink y.cls i text).before a0 Z = true) (wS : ∀ a ∈ Bundle.stringAtoms, a.before a0 Z = true)
    (hS : Z.Since vm0 k0) (hk : k0 ≤ h.size) (hn0 : n0 = Z.heap.size) (I : IB Z vm0 Ts) (hnot : text ∉ Ts) (hh : Jvm.Lit.constHeld Z y.cls i) (hcw : Jvm.Lit.compactW.before a0 Z = true)
    (ht : (∀ c ∈ text.toList, c.toNat < 256) ∧ text.toList.map (fun c => Value.int (Jvm.Lit.byteI c.toNat.toUInt16)) = vs) (hz : ¬ z < 0) (hl : z.toNatClampNeg = vs.length) (hlen : vs.length < 2 ^ 31) (hd : decode bytes pc = .ok (.ldc i, 2)) (hn : 4 * text.toList.length ≤ n) (hbig : n ≤ 536870912) (hc : cells + 2 ≤ R.cells) (hl' : slots + (n + 4) ≤ R.slots) :
    ∃ (vm1 : Vm) (k1 : Nat) (h' : Heap) (a b : Addr), Keep h h' [] ∧ Z.Since vm1 k1 ∧ k1 ≤ h'.size ∧ IB Z vm1 (text :: Ts) ∧ Exa Z h' a "java/lang/String" ∧ Fld Z h' a "java/lang/String" "coder" "B" (.int 0) ∧ Fld Z h' a "java/lang/String" "value" "[B" (.ref b) ∧ AV Z h' b .byte vs ∧
      Wk l Z R y bytes maxL ret n0 (ExW Z R n0 P G) (Z.setVm vm1) h' (cells + 2) (slots + (n + 4)) (pc + 2) Ls (.ref a :: st) := by
  obtain ⟨p, e, m, args, below, meth, c, S0, T, locs, F, X, eT, N, r, ex⟩ := k
  subst hn0
  obtain ⟨a, T', h', k1, b, kk, X', e', E, hS', hk', hZ', hown', E1, F1, F2, A, -, -, I', q⟩ := ldcSV X F.1 F.2.2.2.1 F.2.2.2.2.1 w wS eT hS hk N (fun _ _ q => q) I hnot hh hcw ht hz hl (g := mkF m pc Ls st) rfl (hb F.2.1 hd) hn hbig hc hl'
  exact ⟨T'.vm, k1, h', a, b, Keep.of_ext E, hS', hk', I', E1, F1, F2, AV.of_arv A hl.symm hlen, mk ⟨F.1, F.2.1, F.2.2.1, hZ', hown', F.2.2.2.2.2⟩ X' e' N (fun t u => r t (q t u)) ex⟩
theorem Wk.outZW {vm0 : Vm} {k0 : Nat} {z : Int32} (k : Wk l Z R y bytes maxL (some .boolean) n0 (ExW Z R n0 P G) (Z.setVm vm0) h cells slots pc Ls (.int z :: st)) (hz : z = 0 ∨ z = 1) (hS : Z.Since vm0 k0) (hk : k0 ≤ h.size) (hd : decode bytes pc = .ok (.ireturn, 1)) (hc : cells ≤ R.cells) (hs : slots ≤ R.slots) (hP : P (some (.int z)) h) : G := by
  obtain ⟨p, e, m, args, below, meth, c, S0, T, locs, F, X, eT, N, r, ex⟩ := k
  have hlk : meth.locks = false := F.2.2.2.2.2.2.2
  obtain ⟨fs, hr, hrun, hended, hW⟩ := X.leaveW hS (by rw [eT]; exact hk) (v := some (.int z)) (fun u => by rw [F.2.2.2.2.2.2.1] at u; cases u)
  refine ex ⟨_, _, r _ (retOut X F.1 F.2.2.2.2.2.2.1 (by rcases hz with rfl | rfl <;> rfl) (Or.inl ⟨rfl, Or.inr (Or.inl rfl), z, rfl⟩) (hb F.2.1 hd) hr), hrun, hended, _, locs, rfl, ⟨N, ?_⟩, hW.1, hW.2.1, hW.2.2.1, hW.2.2.2.mono hc hs⟩
  show P (some (.int z)) T.heap
  rw [eT]; exact hP
theorem Wk.inst {i : Nat} {C : String} (k : Wk l Z R y bytes maxL ret n0 Xt s h cells slots pc Ls (.ref a :: st)) (w : (Jvm.Cond.classLink y.cls i C).before a0 Z = true) (I : Ins Z h a C true) (hd : decode bytes pc = .ok (.instanceof i, 3)) : Wk l Z R y bytes maxL ret n0 Xt s h cells slots (pc + 3) Ls (.int (1 : Int32) :: st) := by
  obtain ⟨p, e, m, args, below, meth, c, S0, T, locs, F, X, eT, N, r, ex⟩ := k
  obtain ⟨T', X', e', q⟩ := instY X F.1 F.2.2.2.1 F.2.2.2.2.1 w eT I (g := mkF m pc Ls (.ref a :: st)) rfl rfl (hb F.2.1 hd)
  exact mk F X' e' N (fun t u => r t (q t u)) ex
theorem Wk.cast {i : Nat} {C : String} (k : Wk l Z R y bytes maxL ret n0 Xt s h cells slots pc Ls (.ref a :: st)) (w : (Jvm.Cond.classLink y.cls i C).before a0 Z = true) (I : Ins Z h a C true) (hd : decode bytes pc = .ok (.checkcast i, 3)) : Wk l Z R y bytes maxL ret n0 Xt s h cells slots (pc + 3) Ls (.ref a :: st) := by
  obtain ⟨p, e, m, args, below, meth, c, S0, T, locs, F, X, eT, N, r, ex⟩ := k
  obtain ⟨T', X', e', q⟩ := castY X F.1 F.2.2.2.1 F.2.2.2.2.1 w eT I (g := mkF m pc Ls (.ref a :: st)) rfl rfl (hb F.2.1 hd)
  exact mk F X' e' N (fun t u => r t (q t u)) ex
end L3
end Jvm.Wk
namespace Jvm.Pilot.@@N@@
open Jvm Jvm.ClassFile Sem Op Lib Jvm.Free Jvm.Stand Jvm.LawKit Jvm.RoadKit Bundle Jvm.Wk Jvm.Pilot.@@N@@.Jvm.D
abbrev QB (r : Int32) (h0 : Heap) : Option Value → Heap → Prop := fun v h => h0 = h ∧ v = some (.int r)
abbrev QV (w : Value) (h0 : Heap) : Option Value → Heap → Prop := fun v h => h0 = h ∧ v = some w
theorem d1_0 : decode prog_36_method_4_code 0 = .ok (.aload_n 0, 1) := by decide +kernel
theorem d1_1 : decode prog_36_method_4_code 1 = .ok (.getfield 29, 3) := by decide +kernel
theorem d1_4 : decode prog_36_method_4_code 4 = .ok (.areturn, 1) := by decide +kernel
theorem pn1 : plainFor (⟨"com/example/tallybook/tallybook/camt/StatementKind", "label", "()Ljava/lang/String;"⟩ : MethodName) = true := plainFor_of_name (show plainName "com/example/tallybook/tallybook/camt/StatementKind" = true by first | (simp [plainName, overriddenIn]; done) | decide +kernel)
theorem pd1 : parseMethodDescriptor "()Ljava/lang/String;" = some ⟨[], some (.object "java/lang/String")⟩ := by decide +kernel
abbrev W1 (l : Launch) (Z : State) (n0 : Nat) (P : Option Value → Heap → Prop) (G : Prop) (s : State) := Wk l Z ({ frames := 0, cells := 0, slots := 0, locals := 0 } : Room) (⟨"com/example/tallybook/tallybook/camt/StatementKind", "label", "()Ljava/lang/String;"⟩ : MethodName) prog_36_method_4_code 1 (some (.object "java/lang/String")) n0 (Ex s ({ frames := 0, cells := 0, slots := 0, locals := 0 } : Room) n0 P G) s
set_option maxRecDepth 65536 in
set_option maxHeartbeats 40000000 in
theorem con1 (l : Launch) (Z : State) (a0 : Array Value) (hw : ∀ d ∈ tables_1, d.before a0 Z = true) (p a : Nat) (h0 : Heap) (n0 : Nat) (F1 : Fld Z h0 p "com/example/tallybook/tallybook/camt/StatementKind" "label" "Ljava/lang/String;" (.ref a)) : Con l Z (⟨"com/example/tallybook/tallybook/camt/StatementKind", "label", "()Ljava/lang/String;"⟩ : MethodName) prog_36_method_4_code 1 (some (.object "java/lang/String")) ({ frames := 0, cells := 0, slots := 0, locals := 0 } : Room) #[.ref p] h0 n0 (QV (.ref a) h0) := by
  refine Con.of pn1 (Ls := #[.val (.ref p)]) (fun m => by first | (simp [entryFrame, mkF, argsToLocals, Value.category]; done) | rfl) ?_
  intro G s k
  have k : W1 l Z n0 (QV (.ref a) h0) G s h0 0 0 4 #[.val (.ref p)] [(.ref a)] := (k.aloadN d1_0 rfl rfl).getF (hw _ (List.mem_of_getElem? (i := 8) rfl)) F1 d1_1
  exact k.outA rfl rfl d1_4 (by decide) (by decide) ⟨rfl, rfl⟩
theorem d2_0 : decode prog_36_method_10_code 0 = .ok (.aload_n 0, 1) := by decide +kernel
theorem d2_1 : decode prog_36_method_10_code 1 = .ok (.getstatic 7, 3) := by decide +kernel
theorem d2_4 : decode prog_36_method_10_code 4 = .ok (.if_acmp .ne 7, 3) := by decide +kernel
theorem d2_7 : decode prog_36_method_10_code 7 = .ok (.iconst 1, 1) := by decide +kernel
theorem d2_8 : decode prog_36_method_10_code 8 = .ok (.goto 4, 3) := by decide +kernel
theorem d2_11 : decode prog_36_method_10_code 11 = .ok (.iconst 0, 1) := by decide +kernel
theorem d2_12 : decode prog_36_method_10_code 12 = .ok (.ireturn, 1) := by decide +kernel
theorem pn2 : plainFor (⟨"com/example/tallybook/tallybook/camt/StatementKind", "mayGiveInformationBalanceAlone", "()Z"⟩ : MethodName) = true := plainFor_of_name (show plainName "com/example/tallybook/tallybook/camt/StatementKind" = true by first | (simp [plainName, overriddenIn]; done) | decide +kernel)
theorem pd2 : parseMethodDescriptor "()Z" = some ⟨[], some .boolean⟩ := by decide +kernel
abbrev W2 (l : Launch) (Z : State) (n0 : Nat) (P : Option Value → Heap → Prop) (G : Prop) (s : State) := Wk l Z ({ frames := 0, cells := 0, slots := 0, locals := 0 } : Room) (⟨"com/example/tallybook/tallybook/camt/StatementKind", "mayGiveInformationBalanceAlone", "()Z"⟩ : MethodName) prog_36_method_10_code 1 (some .boolean) n0 (Ex s ({ frames := 0, cells := 0, slots := 0, locals := 0 } : Room) n0 P G) s
set_option maxRecDepth 65536 in
set_option maxHeartbeats 40000000 in
theorem con2y (l : Launch) (Z : State) (a0 : Array Value) (hw : ∀ d ∈ tables_1, d.before a0 Z = true) (pr : Nat) (h0 : Heap) (n0 : Nat) (S2 : Sta Z Z.heap "com/example/tallybook/tallybook/camt/StatementKind" "REPORT" "Lcom/example/tallybook/tallybook/camt/StatementKind;" (.ref pr)) (O : Old Z n0 h0) : Con l Z (⟨"com/example/tallybook/tallybook/camt/StatementKind", "mayGiveInformationBalanceAlone", "()Z"⟩ : MethodName) prog_36_method_10_code 1 (some .boolean) ({ frames := 0, cells := 0, slots := 0, locals := 0 } : Room) #[.ref pr] h0 n0 (QB (1 : Int32) h0) := by
  refine Con.of pn2 (Ls := #[.val (.ref pr)]) (fun m => by first | (simp [entryFrame, mkF, argsToLocals, Value.category]; done) | rfl) ?_
  intro G s k
  have k : W2 l Z n0 (QB (1 : Int32) h0) G s h0 0 0 4 #[.val (.ref pr)] [(.ref pr), (.ref pr)] := (k.aloadN d2_0 rfl rfl).getS (hw _ (List.mem_of_getElem? (i := 38) rfl)) (S2.ext O.2) d2_1
  have k : W2 l Z n0 (QB (1 : Int32) h0) G s h0 0 0 7 #[.val (.ref pr)] [] := k.acF d2_4 rfl rfl (XT.aa_ne_f rfl)
  have k : W2 l Z n0 (QB (1 : Int32) h0) G s h0 0 0 12 #[.val (.ref pr)] [(.int (1 : Int32))] := (k.iconst (1) d2_7 rfl).goto (pc' := 12) d2_8 (by decide)
  exact k.outZ (Or.inr rfl) d2_12 (by decide) (by decide) ⟨rfl, rfl⟩
set_option maxRecDepth 65536 in
set_option maxHeartbeats 40000000 in
theorem con2n (l : Launch) (Z : State) (a0 : Array Value) (hw : ∀ d ∈ tables_1, d.before a0 Z = true) (p pr : Nat) (ne : p ≠ pr) (h0 : Heap) (n0 : Nat) (S2 : Sta Z Z.heap "com/example/tallybook/tallybook/camt/StatementKind" "REPORT" "Lcom/example/tallybook/tallybook/camt/StatementKind;" (.ref pr)) (O : Old Z n0 h0) : Con l Z (⟨"com/example/tallybook/tallybook/camt/StatementKind", "mayGiveInformationBalanceAlone", "()Z"⟩ : MethodName) prog_36_method_10_code 1 (some .boolean) ({ frames := 0, cells := 0, slots := 0, locals := 0 } : Room) #[.ref p] h0 n0 (QB (0 : Int32) h0) := by
  refine Con.of pn2 (Ls := #[.val (.ref p)]) (fun m => by first | (simp [entryFrame, mkF, argsToLocals, Value.category]; done) | rfl) ?_
  intro G s k
  have k : W2 l Z n0 (QB (0 : Int32) h0) G s h0 0 0 4 #[.val (.ref p)] [(.ref pr), (.ref p)] := (k.aloadN d2_0 rfl rfl).getS (hw _ (List.mem_of_getElem? (i := 38) rfl)) (S2.ext O.2) d2_1
  have k : W2 l Z n0 (QB (0 : Int32) h0) G s h0 0 0 11 #[.val (.ref p)] [] := k.acT (pc' := 11) d2_4 rfl rfl (XT.aa_ne_t (fun q => ne (Value.ref.inj q))) (by decide)
  have k : W2 l Z n0 (QB (0 : Int32) h0) G s h0 0 0 12 #[.val (.ref p)] [(.int (0 : Int32))] := k.iconst (0) d2_11 rfl
  exact k.outZ (Or.inl rfl) d2_12 (by decide) (by decide) ⟨rfl, rfl⟩
theorem d3_0 : decode jdk_43_method_13_code 0 = .ok (.aload_n 0, 1) := by decide +kernel
theorem d3_1 : decode jdk_43_method_13_code 1 = .ok (.arraylength, 1) := by decide +kernel
theorem d3_2 : decode jdk_43_method_13_code 2 = .ok (.aload_n 1, 1) := by decide +kernel
theorem d3_3 : decode jdk_43_method_13_code 3 = .ok (.arraylength, 1) := by decide +kernel
theorem d3_4 : decode jdk_43_method_13_code 4 = .ok (.if_icmp .ne 30, 3) := by decide +kernel
theorem d3_7 : decode jdk_43_method_13_code 7 = .ok (.iconst 0, 1) := by decide +kernel
theorem d3_8 : decode jdk_43_method_13_code 8 = .ok (.istore_n 2, 1) := by decide +kernel
theorem d3_9 : decode jdk_43_method_13_code 9 = .ok (.iload_n 2, 1) := by decide +kernel
theorem d3_10 : decode jdk_43_method_13_code 10 = .ok (.aload_n 0, 1) := by decide +kernel
theorem d3_11 : decode jdk_43_method_13_code 11 = .ok (.arraylength, 1) := by decide +kernel
theorem d3_12 : decode jdk_43_method_13_code 12 = .ok (.if_icmp .ge 20, 3) := by decide +kernel
theorem d3_15 : decode jdk_43_method_13_code 15 = .ok (.aload_n 0, 1) := by decide +kernel
theorem d3_16 : decode jdk_43_method_13_code 16 = .ok (.iload_n 2, 1) := by decide +kernel
theorem d3_17 : decode jdk_43_method_13_code 17 = .ok (.baload, 1) := by decide +kernel
theorem d3_18 : decode jdk_43_method_13_code 18 = .ok (.aload_n 1, 1) := by decide +kernel
theorem d3_19 : decode jdk_43_method_13_code 19 = .ok (.iload_n 2, 1) := by decide +kernel
theorem d3_20 : decode jdk_43_method_13_code 20 = .ok (.baload, 1) := by decide +kernel
theorem d3_21 : decode jdk_43_method_13_code 21 = .ok (.if_icmp .eq 5, 3) := by decide +kernel
theorem d3_26 : decode jdk_43_method_13_code 26 = .ok (.iinc 2 1, 3) := by decide +kernel
theorem d3_29 : decode jdk_43_method_13_code 29 = .ok (.goto (-20), 3) := by decide +kernel
theorem d3_32 : decode jdk_43_method_13_code 32 = .ok (.iconst 1, 1) := by decide +kernel
theorem d3_33 : decode jdk_43_method_13_code 33 = .ok (.ireturn, 1) := by decide +kernel
theorem d3_34 : decode jdk_43_method_13_code 34 = .ok (.iconst 0, 1) := by decide +kernel
theorem d3_35 : decode jdk_43_method_13_code 35 = .ok (.ireturn, 1) := by decide +kernel
theorem pn3 : plainFor (⟨"java/lang/StringLatin1", "equals", "([B[B)Z"⟩ : MethodName) = true := plainFor_of_name (show plainName "java/lang/StringLatin1" = true by first | (simp [plainName, overriddenIn]; done) | decide +kernel)
theorem pd3 : parseMethodDescriptor "([B[B)Z" = some ⟨[(.array .byte), (.array .byte)], some .boolean⟩ := by decide +kernel
abbrev W3 (l : Launch) (Z : State) (n0 : Nat) (P : Option Value → Heap → Prop) (G : Prop) (s : State) := Wk l Z ({ frames := 0, cells := 0, slots := 0, locals := 0 } : Room) (⟨"java/lang/StringLatin1", "equals", "([B[B)Z"⟩ : MethodName) jdk_43_method_13_code 3 (some .boolean) n0 (Ex s ({ frames := 0, cells := 0, slots := 0, locals := 0 } : Room) n0 P G) s
theorem d4_0 : decode jdk_42_method_66_code 0 = .ok (.aload_n 0, 1) := by decide +kernel
theorem d4_1 : decode jdk_42_method_66_code 1 = .ok (.aload_n 1, 1) := by decide +kernel
theorem d4_2 : decode jdk_42_method_66_code 2 = .ok (.if_acmp .ne 5, 3) := by decide +kernel
theorem d4_5 : decode jdk_42_method_66_code 5 = .ok (.iconst 1, 1) := by decide +kernel
theorem d4_6 : decode jdk_42_method_66_code 6 = .ok (.ireturn, 1) := by decide +kernel
theorem d4_7 : decode jdk_42_method_66_code 7 = .ok (.aload_n 1, 1) := by decide +kernel
theorem d4_8 : decode jdk_42_method_66_code 8 = .ok (.instanceof 10, 3) := by decide +kernel
theorem d4_11 : decode jdk_42_method_66_code 11 = .ok (.ifCond .eq 43, 3) := by decide +kernel
theorem d4_14 : decode jdk_42_method_66_code 14 = .ok (.aload_n 1, 1) := by decide +kernel
theorem d4_15 : decode jdk_42_method_66_code 15 = .ok (.checkcast 10, 3) := by decide +kernel
theorem d4_18 : decode jdk_42_method_66_code 18 = .ok (.astore_n 2, 1) := by decide +kernel
theorem d4_19 : decode jdk_42_method_66_code 19 = .ok (.getstatic 38, 3) := by decide +kernel
theorem d4_22 : decode jdk_42_method_66_code 22 = .ok (.ifCond .eq 14, 3) := by decide +kernel
theorem d4_25 : decode jdk_42_method_66_code 25 = .ok (.aload_n 0, 1) := by decide +kernel
theorem d4_26 : decode jdk_42_method_66_code 26 = .ok (.getfield 15, 3) := by decide +kernel
theorem d4_29 : decode jdk_42_method_66_code 29 = .ok (.aload_n 2, 1) := by decide +kernel
theorem d4_30 : decode jdk_42_method_66_code 30 = .ok (.getfield 15, 3) := by decide +kernel
theorem d4_33 : decode jdk_42_method_66_code 33 = .ok (.if_icmp .ne 21, 3) := by decide +kernel
theorem d4_36 : decode jdk_42_method_66_code 36 = .ok (.aload_n 0, 1) := by decide +kernel
theorem d4_37 : decode jdk_42_method_66_code 37 = .ok (.getfield 9, 3) := by decide +kernel
theorem d4_40 : decode jdk_42_method_66_code 40 = .ok (.aload_n 2, 1) := by decide +kernel
theorem d4_41 : decode jdk_42_method_66_code 41 = .ok (.getfield 9, 3) := by decide +kernel
theorem d4_44 : decode jdk_42_method_66_code 44 = .ok (.invokestatic 541, 3) := by decide +kernel
theorem d4_47 : decode jdk_42_method_66_code 47 = .ok (.ifCond .eq 7, 3) := by decide +kernel
theorem d4_50 : decode jdk_42_method_66_code 50 = .ok (.iconst 1, 1) := by decide +kernel
theorem d4_51 : decode jdk_42_method_66_code 51 = .ok (.goto 4, 3) := by decide +kernel
theorem d4_54 : decode jdk_42_method_66_code 54 = .ok (.iconst 0, 1) := by decide +kernel
theorem d4_55 : decode jdk_42_method_66_code 55 = .ok (.ireturn, 1) := by decide +kernel
theorem pn4 : plainFor (⟨"java/lang/String", "equals", "(Ljava/lang/Object;)Z"⟩ : MethodName) = true := plainFor_of_name (show plainName "java/lang/String" = true by first | (simp [plainName, overriddenIn]; done) | decide +kernel)
theorem pd4 : parseMethodDescriptor "(Ljava/lang/Object;)Z" = some ⟨[(.object "java/lang/Object")], some .boolean⟩ := by decide +kernel
abbrev W4 (l : Launch) (Z : State) (n0 : Nat) (P : Option Value → Heap → Prop) (G : Prop) (s : State) := Wk l Z ({ frames := 1, cells := 0, slots := 0, locals := 14 } : Room) (⟨"java/lang/String", "equals", "(Ljava/lang/Object;)Z"⟩ : MethodName) jdk_42_method_66_code 3 (some .boolean) n0 (Ex s ({ frames := 1, cells := 0, slots := 0, locals := 14 } : Room) n0 P G) s
set_option maxRecDepth 65536 in
set_option maxHeartbeats 40000000 in
theorem con4i (l : Launch) (Z : State) (a0 : Array Value) (hw : ∀ d ∈ tables_1, d.before a0 Z = true) (a : Nat) (h0 : Heap) (n0 : Nat) : Con l Z (⟨"java/lang/String", "equals", "(Ljava/lang/Object;)Z"⟩ : MethodName) jdk_42_method_66_code 3 (some .boolean) ({ frames := 1, cells := 0, slots := 0, locals := 14 } : Room) #[.ref a, .ref a] h0 n0 (QB (1 : Int32) h0) := by
  refine Con.of pn4 (Ls := #[.val (.ref a), .val (.ref a), .unset]) (fun m => by first | (simp [entryFrame, mkF, argsToLocals, Value.category]; done) | rfl) ?_
  intro G s k
  have k : W4 l Z n0 (QB (1 : Int32) h0) G s h0 0 0 2 #[.val (.ref a), .val (.ref a), .unset] [(.ref a), (.ref a)] := (k.aloadN d4_0 rfl rfl).aloadN d4_1 rfl rfl
  have k : W4 l Z n0 (QB (1 : Int32) h0) G s h0 0 0 5 #[.val (.ref a), .val (.ref a), .unset] [] := k.acF d4_2 rfl rfl (XT.aa_ne_f rfl)
  have k : W4 l Z n0 (QB (1 : Int32) h0) G s h0 0 0 6 #[.val (.ref a), .val (.ref a), .unset] [(.int (1 : Int32))] := k.iconst (1) d4_5 rfl
  exact k.outZ (Or.inr rfl) d4_6 (by decide) (by decide) ⟨rfl, rfl⟩
set_option maxRecDepth 65536 in
set_option maxHeartbeats 40000000 in
theorem con3rr (l : Launch) (Z : State) (a0 : Array Value) (hw : ∀ d ∈ tables_1, d.before a0 Z = true) (a c : Nat) (h0 : Heap) (n0 : Nat) (A : AV Z h0 a .byte [(.int (114 : Int32)), (.int (101 : Int32)), (.int (112 : Int32)), (.int (111 : Int32)), (.int (114 : Int32)), (.int (116 : Int32))]) (B : AV Z h0 c .byte [(.int (114 : Int32)), (.int (101 : Int32)), (.int (112 : Int32)), (.int (111 : Int32)), (.int (114 : Int32)), (.int (116 : Int32))]) : Con l Z (⟨"java/lang/StringLatin1", "equals", "([B[B)Z"⟩ : MethodName) jdk_43_method_13_code 3 (some .boolean) ({ frames := 0, cells := 0, slots := 0, locals := 0 } : Room) #[.ref a, .ref c] h0 n0 (QB (1 : Int32) h0) := by
  refine Con.of pn3 (Ls := #[.val (.ref a), .val (.ref c), .unset]) (fun m => by first | (simp [entryFrame, mkF, argsToLocals, Value.category]; done) | rfl) ?_
  intro G s k
  have k : W3 l Z n0 (QB (1 : Int32) h0) G s h0 0 0 7 #[.val (.ref a), .val (.ref c), .unset] [] := ((((k.aloadN d3_0 rfl rfl).len (n := 6) A rfl d3_1).aloadN d3_2 rfl rfl).len (n := 6) B rfl d3_3).icF d3_4 (XT.ii_ne_f (by decide))
  have k : W3 l Z n0 (QB (1 : Int32) h0) G s h0 0 0 15 #[.val (.ref a), .val (.ref c), .val (.int (0 : Int32))] [] := (((((k.iconst (0) d3_7 rfl).istoreN d3_8 (Ls' := #[.val (.ref a), .val (.ref c), .val (.int (0 : Int32))]) rfl).iloadN d3_9 rfl).aloadN d3_10 rfl rfl).len (n := 6) A rfl d3_11).icF d3_12 (XT.ii_ge_f (by decide))
  have k : W3 l Z n0 (QB (1 : Int32) h0) G s h0 0 0 21 #[.val (.ref a), .val (.ref c), .val (.int (0 : Int32))] [(.int (114 : Int32)), (.int (114 : Int32))] := (((((k.aloadN d3_15 rfl rfl).iloadN d3_16 rfl).ldB A (by decide) rfl d3_17).aloadN d3_18 rfl rfl).iloadN d3_19 rfl).ldB B (by decide) rfl d3_20
  have k : W3 l Z n0 (QB (1 : Int32) h0) G s h0 0 0 26 #[.val (.ref a), .val (.ref c), .val (.int (0 : Int32))] [] := k.icT (pc' := 26) d3_21 (XT.ii_eq_t (by decide)) (by decide)
  have k : W3 l Z n0 (QB (1 : Int32) h0) G s h0 0 0 29 #[.val (.ref a), .val (.ref c), .val (.int ((0 : Int32) + (1 : Int32)))] [] := k.iinc (Ls' := #[.val (.ref a), .val (.ref c), .val (.int ((0 : Int32) + (1 : Int32)))]) (1) d3_26 rfl rfl rfl
  rw [show ((0 : Int32) + (1 : Int32) : Int32) = (1 : Int32) from by decide] at k
  have k : W3 l Z n0 (QB (1 : Int32) h0) G s h0 0 0 9 #[.val (.ref a), .val (.ref c), .val (.int (1 : Int32))] [] := k.goto (pc' := 9) d3_29 (by decide)
  have k : W3 l Z n0 (QB (1 : Int32) h0) G s h0 0 0 15 #[.val (.ref a), .val (.ref c), .val (.int (1 : Int32))] [] := (((k.iloadN d3_9 rfl).aloadN d3_10 rfl rfl).len (n := 6) A rfl d3_11).icF d3_12 (XT.ii_ge_f (by decide))
  have k : W3 l Z n0 (QB (1 : Int32) h0) G s h0 0 0 21 #[.val (.ref a), .val (.ref c), .val (.int (1 : Int32))] [(.int (101 : Int32)), (.int (101 : Int32))] := (((((k.aloadN d3_15 rfl rfl).iloadN d3_16 rfl).ldB A (by decide) rfl d3_17).aloadN d3_18 rfl rfl).iloadN d3_19 rfl).ldB B (by decide) rfl d3_20
  have k : W3 l Z n0 (QB (1 : Int32) h0) G s h0 0 0 26 #[.val (.ref a), .val (.ref c), .val (.int (1 : Int32))] [] := k.icT (pc' := 26) d3_21 (XT.ii_eq_t (by decide)) (by decide)
  have k : W3 l Z n0 (QB (1 : Int32) h0) G s h0 0 0 29 #[.val (.ref a), .val (.ref c), .val (.int ((1 : Int32) + (1 : Int32)))] [] := k.iinc (Ls' := #[.val (.ref a), .val (.ref c), .val (.int ((1 : Int32) + (1 : Int32)))]) (1) d3_26 rfl rfl rfl
  rw [show ((1 : Int32) + (1 : Int32) : Int32) = (2 : Int32) from by decide] at k
  have k : W3 l Z n0 (QB (1 : Int32) h0) G s h0 0 0 9 #[.val (.ref a), .val (.ref c), .val (.int (2 : Int32))] [] := k.goto (pc' := 9) d3_29 (by decide)
  have k : W3 l Z n0 (QB (1 : Int32) h0) G s h0 0 0 15 #[.val (.ref a), .val (.ref c), .val (.int (2 : Int32))] [] := (((k.iloadN d3_9 rfl).aloadN d3_10 rfl rfl).len (n := 6) A rfl d3_11).icF d3_12 (XT.ii_ge_f (by decide))
  have k : W3 l Z n0 (QB (1 : Int32) h0) G s h0 0 0 21 #[.val (.ref a), .val (.ref c), .val (.int (2 : Int32))] [(.int (112 : Int32)), (.int (112 : Int32))] := (((((k.aloadN d3_15 rfl rfl).iloadN d3_16 rfl).ldB A (by decide) rfl d3_17).aloadN d3_18 rfl rfl).iloadN d3_19 rfl).ldB B (by decide) rfl d3_20
  have k : W3 l Z n0 (QB (1 : Int32) h0) G s h0 0 0 26 #[.val (.ref a), .val (.ref c), .val (.int (2 : Int32))] [] := k.icT (pc' := 26) d3_21 (XT.ii_eq_t (by decide)) (by decide)
  have k : W3 l Z n0 (QB (1 : Int32) h0) G s h0 0 0 29 #[.val (.ref a), .val (.ref c), .val (.int ((2 : Int32) + (1 : Int32)))] [] := k.iinc (Ls' := #[.val (.ref a), .val (.ref c), .val (.int ((2 : Int32) + (1 : Int32)))]) (1) d3_26 rfl rfl rfl
  rw [show ((2 : Int32) + (1 : Int32) : Int32) = (3 : Int32) from by decide] at k
  have k : W3 l Z n0 (QB (1 : Int32) h0) G s h0 0 0 9 #[.val (.ref a), .val (.ref c), .val (.int (3 : Int32))] [] := k.goto (pc' := 9) d3_29 (by decide)
  have k : W3 l Z n0 (QB (1 : Int32) h0) G s h0 0 0 15 #[.val (.ref a), .val (.ref c), .val (.int (3 : Int32))] [] := (((k.iloadN d3_9 rfl).aloadN d3_10 rfl rfl).len (n := 6) A rfl d3_11).icF d3_12 (XT.ii_ge_f (by decide))
  have k : W3 l Z n0 (QB (1 : Int32) h0) G s h0 0 0 21 #[.val (.ref a), .val (.ref c), .val (.int (3 : Int32))] [(.int (111 : Int32)), (.int (111 : Int32))] := (((((k.aloadN d3_15 rfl rfl).iloadN d3_16 rfl).ldB A (by decide) rfl d3_17).aloadN d3_18 rfl rfl).iloadN d3_19 rfl).ldB B (by decide) rfl d3_20
  have k : W3 l Z n0 (QB (1 : Int32) h0) G s h0 0 0 26 #[.val (.ref a), .val (.ref c), .val (.int (3 : Int32))] [] := k.icT (pc' := 26) d3_21 (XT.ii_eq_t (by decide)) (by decide)
  have k : W3 l Z n0 (QB (1 : Int32) h0) G s h0 0 0 29 #[.val (.ref a), .val (.ref c), .val (.int ((3 : Int32) + (1 : Int32)))] [] := k.iinc (Ls' := #[.val (.ref a), .val (.ref c), .val (.int ((3 : Int32) + (1 : Int32)))]) (1) d3_26 rfl rfl rfl
  rw [show ((3 : Int32) + (1 : Int32) : Int32) = (4 : Int32) from by decide] at k
  have k : W3 l Z n0 (QB (1 : Int32) h0) G s h0 0 0 9 #[.val (.ref a), .val (.ref c), .val (.int (4 : Int32))] [] := k.goto (pc' := 9) d3_29 (by decide)
  have k : W3 l Z n0 (QB (1 : Int32) h0) G s h0 0 0 15 #[.val (.ref a), .val (.ref c), .val (.int (4 : Int32))] [] := (((k.iloadN d3_9 rfl).aloadN d3_10 rfl rfl).len (n := 6) A rfl d3_11).icF d3_12 (XT.ii_ge_f (by decide))
  have k : W3 l Z n0 (QB (1 : Int32) h0) G s h0 0 0 21 #[.val (.ref a), .val (.ref c), .val (.int (4 : Int32))] [(.int (114 : Int32)), (.int (114 : Int32))] := (((((k.aloadN d3_15 rfl rfl).iloadN d3_16 rfl).ldB A (by decide) rfl d3_17).aloadN d3_18 rfl rfl).iloadN d3_19 rfl).ldB B (by decide) rfl d3_20
  have k : W3 l Z n0 (QB (1 : Int32) h0) G s h0 0 0 26 #[.val (.ref a), .val (.ref c), .val (.int (4 : Int32))] [] := k.icT (pc' := 26) d3_21 (XT.ii_eq_t (by decide)) (by decide)
  have k : W3 l Z n0 (QB (1 : Int32) h0) G s h0 0 0 29 #[.val (.ref a), .val (.ref c), .val (.int ((4 : Int32) + (1 : Int32)))] [] := k.iinc (Ls' := #[.val (.ref a), .val (.ref c), .val (.int ((4 : Int32) + (1 : Int32)))]) (1) d3_26 rfl rfl rfl
  rw [show ((4 : Int32) + (1 : Int32) : Int32) = (5 : Int32) from by decide] at k
  have k : W3 l Z n0 (QB (1 : Int32) h0) G s h0 0 0 9 #[.val (.ref a), .val (.ref c), .val (.int (5 : Int32))] [] := k.goto (pc' := 9) d3_29 (by decide)
  have k : W3 l Z n0 (QB (1 : Int32) h0) G s h0 0 0 15 #[.val (.ref a), .val (.ref c), .val (.int (5 : Int32))] [] := (((k.iloadN d3_9 rfl).aloadN d3_10 rfl rfl).len (n := 6) A rfl d3_11).icF d3_12 (XT.ii_ge_f (by decide))
  have k : W3 l Z n0 (QB (1 : Int32) h0) G s h0 0 0 21 #[.val (.ref a), .val (.ref c), .val (.int (5 : Int32))] [(.int (116 : Int32)), (.int (116 : Int32))] := (((((k.aloadN d3_15 rfl rfl).iloadN d3_16 rfl).ldB A (by decide) rfl d3_17).aloadN d3_18 rfl rfl).iloadN d3_19 rfl).ldB B (by decide) rfl d3_20
  have k : W3 l Z n0 (QB (1 : Int32) h0) G s h0 0 0 26 #[.val (.ref a), .val (.ref c), .val (.int (5 : Int32))] [] := k.icT (pc' := 26) d3_21 (XT.ii_eq_t (by decide)) (by decide)
  have k : W3 l Z n0 (QB (1 : Int32) h0) G s h0 0 0 29 #[.val (.ref a), .val (.ref c), .val (.int ((5 : Int32) + (1 : Int32)))] [] := k.iinc (Ls' := #[.val (.ref a), .val (.ref c), .val (.int ((5 : Int32) + (1 : Int32)))]) (1) d3_26 rfl rfl rfl
  rw [show ((5 : Int32) + (1 : Int32) : Int32) = (6 : Int32) from by decide] at k
  have k : W3 l Z n0 (QB (1 : Int32) h0) G s h0 0 0 9 #[.val (.ref a), .val (.ref c), .val (.int (6 : Int32))] [] := k.goto (pc' := 9) d3_29 (by decide)
  have k : W3 l Z n0 (QB (1 : Int32) h0) G s h0 0 0 32 #[.val (.ref a), .val (.ref c), .val (.int (6 : Int32))] [] := (((k.iloadN d3_9 rfl).aloadN d3_10 rfl rfl).len (n := 6) A rfl d3_11).icT (pc' := 32) d3_12 (XT.ii_ge_t (by decide)) (by decide)
  have k : W3 l Z n0 (QB (1 : Int32) h0) G s h0 0 0 33 #[.val (.ref a), .val (.ref c), .val (.int (6 : Int32))] [(.int (1 : Int32))] := k.iconst (1) d3_32 rfl
  exact k.outZ (Or.inr rfl) d3_33 (by decide) (by decide) ⟨rfl, rfl⟩
set_option maxRecDepth 65536 in
set_option maxHeartbeats 40000000 in
theorem con4rrn (l : Launch) (Z : State) (a0 : Array Value) (hw : ∀ d ∈ tables_1, d.before a0 Z = true) (a va c vc : Nat) (h0 : Heap) (n0 : Nat) (zc : Int32) (hzc : ¬ zc = 0) (S3 : Sta Z Z.heap "java/lang/String" "COMPACT_STRINGS" "Z" (.int zc)) (O : Old Z n0 h0) (Y1 : Exa Z h0 c "java/lang/String") (X2 : Fld Z h0 a "java/lang/String" "coder" "B" (.int 0)) (X3 : Fld Z h0 a "java/lang/String" "value" "[B" (.ref va)) (X4 : AV Z h0 va .byte [(.int (114 : Int32)), (.int (101 : Int32)), (.int (112 : Int32)), (.int (111 : Int32)), (.int (114 : Int32)), (.int (116 : Int32))]) (Y2 : Fld Z h0 c "java/lang/String" "coder" "B" (.int 0)) (Y3 : Fld Z h0 c "java/lang/String" "value" "[B" (.ref vc)) (Y4 : AV Z h0 vc .byte [(.int (114 : Int32)), (.int (101 : Int32)), (.int (112 : Int32)), (.int (111 : Int32)), (.int (114 : Int32)), (.int (116 : Int32))]) (ne : a ≠ c) : Con l Z (⟨"java/lang/String", "equals", "(Ljava/lang/Object;)Z"⟩ : MethodName) jdk_42_method_66_code 3 (some .boolean) ({ frames := 1, cells := 0, slots := 0, locals := 14 } : Room) #[.ref a, .ref c] h0 n0 (QB (1 : Int32) h0) := by
  refine Con.of pn4 (Ls := #[.val (.ref a), .val (.ref c), .unset]) (fun m => by first | (simp [entryFrame, mkF, argsToLocals, Value.category]; done) | rfl) ?_
  intro G s k
  have k : W4 l Z n0 (QB (1 : Int32) h0) G s h0 0 0 2 #[.val (.ref a), .val (.ref c), .unset] [(.ref c), (.ref a)] := (k.aloadN d4_0 rfl rfl).aloadN d4_1 rfl rfl
  have k : W4 l Z n0 (QB (1 : Int32) h0) G s h0 0 0 7 #[.val (.ref a), .val (.ref c), .unset] [] := k.acT (pc' := 7) d4_2 rfl rfl (XT.aa_ne_t (fun q => ne (Value.ref.inj q))) (by decide)
  have k : W4 l Z n0 (QB (1 : Int32) h0) G s h0 0 0 14 #[.val (.ref a), .val (.ref c), .unset] [] := ((k.aloadN d4_7 rfl rfl).inst (hw _ (List.mem_of_getElem? (i := 23) rfl)) (Ins.self Y1) d4_8).ifF d4_11 (XT.i0_eq_f (by decide))
  have k : W4 l Z n0 (QB (1 : Int32) h0) G s h0 0 0 22 #[.val (.ref a), .val (.ref c), .val (.ref c)] [(.int zc)] := (((k.aloadN d4_14 rfl rfl).cast (hw _ (List.mem_of_getElem? (i := 23) rfl)) (Ins.self Y1) d4_15).astoreN d4_18 rfl (Ls' := #[.val (.ref a), .val (.ref c), .val (.ref c)]) rfl).getS (hw _ (List.mem_of_getElem? (i := 25) rfl)) (S3.ext O.2) d4_19
  have k : W4 l Z n0 (QB (1 : Int32) h0) G s h0 0 0 25 #[.val (.ref a), .val (.ref c), .val (.ref c)] [] := k.ifF d4_22 (XT.i0_eq_f hzc)
  have k : W4 l Z n0 (QB (1 : Int32) h0) G s h0 0 0 36 #[.val (.ref a), .val (.ref c), .val (.ref c)] [] := ((((k.aloadN d4_25 rfl rfl).getF (hw _ (List.mem_of_getElem? (i := 26) rfl)) X2 d4_26).aloadN d4_29 rfl rfl).getF (hw _ (List.mem_of_getElem? (i := 26) rfl)) Y2 d4_30).icF d4_33 (XT.ii_ne_f (by decide))
  have k : W4 l Z n0 (QB (1 : Int32) h0) G s h0 0 0 44 #[.val (.ref a), .val (.ref c), .val (.ref c)] [(.ref vc), (.ref va)] := (((k.aloadN d4_36 rfl rfl).getF (hw _ (List.mem_of_getElem? (i := 27) rfl)) X3 d4_37).aloadN d4_40 rfl rfl).getF (hw _ (List.mem_of_getElem? (i := 27) rfl)) Y3 d4_41
  obtain ⟨v1, h1, ⟨rfl, rfl⟩, k⟩ := k.callS (hw _ (List.mem_of_getElem? (i := 28) rfl)) (hw _ (List.mem_of_getElem? (i := 29) rfl)) (hw _ (List.mem_of_getElem? (i := 30) rfl)) (hw _ (List.mem_of_getElem? (i := 31) rfl)) (by decide) (con3rr l Z a0 hw va vc h0 n0 X4 Y4) (argsL := [(.ref va), (.ref vc)]) (rest := []) (lenOf pd3 rfl) d4_44 rfl rfl 0 (Nat.le_of_eq rfl) (by decide) (by decide) (by decide) (by decide)
  have k : W4 l Z n0 (QB (1 : Int32) h0) G s h0 0 0 47 #[.val (.ref a), .val (.ref c), .val (.ref c)] [(.int (1 : Int32))] := k
  have k : W4 l Z n0 (QB (1 : Int32) h0) G s h0 0 0 50 #[.val (.ref a), .val (.ref c), .val (.ref c)] [] := k.ifF d4_47 (XT.i0_eq_f (by decide))
  have k : W4 l Z n0 (QB (1 : Int32) h0) G s h0 0 0 55 #[.val (.ref a), .val (.ref c), .val (.ref c)] [(.int (1 : Int32))] := (k.iconst (1) d4_50 rfl).goto (pc' := 55) d4_51 (by decide)
  exact k.outZ (Or.inr rfl) d4_55 (by decide) (by decide) ⟨rfl, rfl⟩
theorem con4rr (l : Launch) (Z : State) (a0 : Array Value) (hw : ∀ d ∈ tables_1, d.before a0 Z = true) (a va c vc : Nat) (h0 : Heap) (n0 : Nat) (zc : Int32) (hzc : ¬ zc = 0) (S3 : Sta Z Z.heap "java/lang/String" "COMPACT_STRINGS" "Z" (.int zc)) (O : Old Z n0 h0) (Y1 : Exa Z h0 c "java/lang/String") (X2 : Fld Z h0 a "java/lang/String" "coder" "B" (.int 0)) (X3 : Fld Z h0 a "java/lang/String" "value" "[B" (.ref va)) (X4 : AV Z h0 va .byte [(.int (114 : Int32)), (.int (101 : Int32)), (.int (112 : Int32)), (.int (111 : Int32)), (.int (114 : Int32)), (.int (116 : Int32))]) (Y2 : Fld Z h0 c "java/lang/String" "coder" "B" (.int 0)) (Y3 : Fld Z h0 c "java/lang/String" "value" "[B" (.ref vc)) (Y4 : AV Z h0 vc .byte [(.int (114 : Int32)), (.int (101 : Int32)), (.int (112 : Int32)), (.int (111 : Int32)), (.int (114 : Int32)), (.int (116 : Int32))]) : Con l Z (⟨"java/lang/String", "equals", "(Ljava/lang/Object;)Z"⟩ : MethodName) jdk_42_method_66_code 3 (some .boolean) ({ frames := 1, cells := 0, slots := 0, locals := 14 } : Room) #[.ref a, .ref c] h0 n0 (QB (1 : Int32) h0) := by
  by_cases e : a = c
  · subst e; exact con4i l Z a0 hw a h0 n0
  · exact con4rrn l Z a0 hw a va c vc h0 n0 zc hzc S3 O Y1 X2 X3 X4 Y2 Y3 Y4 e
set_option maxRecDepth 65536 in
set_option maxHeartbeats 40000000 in
theorem con3sr (l : Launch) (Z : State) (a0 : Array Value) (hw : ∀ d ∈ tables_1, d.before a0 Z = true) (a c : Nat) (h0 : Heap) (n0 : Nat) (A : AV Z h0 a .byte [(.int (115 : Int32)), (.int (116 : Int32)), (.int (97 : Int32)), (.int (116 : Int32)), (.int (101 : Int32)), (.int (109 : Int32)), (.int (101 : Int32)), (.int (110 : Int32)), (.int (116 : Int32))]) (B : AV Z h0 c .byte [(.int (114 : Int32)), (.int (101 : Int32)), (.int (112 : Int32)), (.int (111 : Int32)), (.int (114 : Int32)), (.int (116 : Int32))]) : Con l Z (⟨"java/lang/StringLatin1", "equals", "([B[B)Z"⟩ : MethodName) jdk_43_method_13_code 3 (some .boolean) ({ frames := 0, cells := 0, slots := 0, locals := 0 } : Room) #[.ref a, .ref c] h0 n0 (QB (0 : Int32) h0) := by
  refine Con.of pn3 (Ls := #[.val (.ref a), .val (.ref c), .unset]) (fun m => by first | (simp [entryFrame, mkF, argsToLocals, Value.category]; done) | rfl) ?_
  intro G s k
  have k : W3 l Z n0 (QB (0 : Int32) h0) G s h0 0 0 34 #[.val (.ref a), .val (.ref c), .unset] [] := ((((k.aloadN d3_0 rfl rfl).len (n := 9) A rfl d3_1).aloadN d3_2 rfl rfl).len (n := 6) B rfl d3_3).icT (pc' := 34) d3_4 (XT.ii_ne_t (by decide)) (by decide)
  have k : W3 l Z n0 (QB (0 : Int32) h0) G s h0 0 0 35 #[.val (.ref a), .val (.ref c), .unset] [(.int (0 : Int32))] := k.iconst (0) d3_34 rfl
  exact k.outZ (Or.inl rfl) d3_35 (by decide) (by decide) ⟨rfl, rfl⟩
set_option maxRecDepth 65536 in
set_option maxHeartbeats 40000000 in
theorem con4srn (l : Launch) (Z : State) (a0 : Array Value) (hw : ∀ d ∈ tables_1, d.before a0 Z = true) (a va c vc : Nat) (h0 : Heap) (n0 : Nat) (zc : Int32) (hzc : ¬ zc = 0) (S3 : Sta Z Z.heap "java/lang/String" "COMPACT_STRINGS" "Z" (.int zc)) (O : Old Z n0 h0) (Y1 : Exa Z h0 c "java/lang/String") (X2 : Fld Z h0 a "java/lang/String" "coder" "B" (.int 0)) (X3 : Fld Z h0 a "java/lang/String" "value" "[B" (.ref va)) (X4 : AV Z h0 va .byte [(.int (115 : Int32)), (.int (116 : Int32)), (.int (97 : Int32)), (.int (116 : Int32)), (.int (101 : Int32)), (.int (109 : Int32)), (.int (101 : Int32)), (.int (110 : Int32)), (.int (116 : Int32))]) (Y2 : Fld Z h0 c "java/lang/String" "coder" "B" (.int 0)) (Y3 : Fld Z h0 c "java/lang/String" "value" "[B" (.ref vc)) (Y4 : AV Z h0 vc .byte [(.int (114 : Int32)), (.int (101 : Int32)), (.int (112 : Int32)), (.int (111 : Int32)), (.int (114 : Int32)), (.int (116 : Int32))]) (ne : a ≠ c) : Con l Z (⟨"java/lang/String", "equals", "(Ljava/lang/Object;)Z"⟩ : MethodName) jdk_42_method_66_code 3 (some .boolean) ({ frames := 1, cells := 0, slots := 0, locals := 14 } : Room) #[.ref a, .ref c] h0 n0 (QB (0 : Int32) h0) := by
  refine Con.of pn4 (Ls := #[.val (.ref a), .val (.ref c), .unset]) (fun m => by first | (simp [entryFrame, mkF, argsToLocals, Value.category]; done) | rfl) ?_
  intro G s k
  have k : W4 l Z n0 (QB (0 : Int32) h0) G s h0 0 0 2 #[.val (.ref a), .val (.ref c), .unset] [(.ref c), (.ref a)] := (k.aloadN d4_0 rfl rfl).aloadN d4_1 rfl rfl
  have k : W4 l Z n0 (QB (0 : Int32) h0) G s h0 0 0 7 #[.val (.ref a), .val (.ref c), .unset] [] := k.acT (pc' := 7) d4_2 rfl rfl (XT.aa_ne_t (fun q => ne (Value.ref.inj q))) (by decide)
  have k : W4 l Z n0 (QB (0 : Int32) h0) G s h0 0 0 14 #[.val (.ref a), .val (.ref c), .unset] [] := ((k.aloadN d4_7 rfl rfl).inst (hw _ (List.mem_of_getElem? (i := 23) rfl)) (Ins.self Y1) d4_8).ifF d4_11 (XT.i0_eq_f (by decide))
  have k : W4 l Z n0 (QB (0 : Int32) h0) G s h0 0 0 22 #[.val (.ref a), .val (.ref c), .val (.ref c)] [(.int zc)] := (((k.aloadN d4_14 rfl rfl).cast (hw _ (List.mem_of_getElem? (i := 23) rfl)) (Ins.self Y1) d4_15).astoreN d4_18 rfl (Ls' := #[.val (.ref a), .val (.ref c), .val (.ref c)]) rfl).getS (hw _ (List.mem_of_getElem? (i := 25) rfl)) (S3.ext O.2) d4_19
  have k : W4 l Z n0 (QB (0 : Int32) h0) G s h0 0 0 25 #[.val (.ref a), .val (.ref c), .val (.ref c)] [] := k.ifF d4_22 (XT.i0_eq_f hzc)
  have k : W4 l Z n0 (QB (0 : Int32) h0) G s h0 0 0 36 #[.val (.ref a), .val (.ref c), .val (.ref c)] [] := ((((k.aloadN d4_25 rfl rfl).getF (hw _ (List.mem_of_getElem? (i := 26) rfl)) X2 d4_26).aloadN d4_29 rfl rfl).getF (hw _ (List.mem_of_getElem? (i := 26) rfl)) Y2 d4_30).icF d4_33 (XT.ii_ne_f (by decide))
  have k : W4 l Z n0 (QB (0 : Int32) h0) G s h0 0 0 44 #[.val (.ref a), .val (.ref c), .val (.ref c)] [(.ref vc), (.ref va)] := (((k.aloadN d4_36 rfl rfl).getF (hw _ (List.mem_of_getElem? (i := 27) rfl)) X3 d4_37).aloadN d4_40 rfl rfl).getF (hw _ (List.mem_of_getElem? (i := 27) rfl)) Y3 d4_41
  obtain ⟨v2, h2, ⟨rfl, rfl⟩, k⟩ := k.callS (hw _ (List.mem_of_getElem? (i := 28) rfl)) (hw _ (List.mem_of_getElem? (i := 29) rfl)) (hw _ (List.mem_of_getElem? (i := 30) rfl)) (hw _ (List.mem_of_getElem? (i := 31) rfl)) (by decide) (con3sr l Z a0 hw va vc h0 n0 X4 Y4) (argsL := [(.ref va), (.ref vc)]) (rest := []) (lenOf pd3 rfl) d4_44 rfl rfl 0 (Nat.le_of_eq rfl) (by decide) (by decide) (by decide) (by decide)
  have k : W4 l Z n0 (QB (0 : Int32) h0) G s h0 0 0 47 #[.val (.ref a), .val (.ref c), .val (.ref c)] [(.int (0 : Int32))] := k
  have k : W4 l Z n0 (QB (0 : Int32) h0) G s h0 0 0 54 #[.val (.ref a), .val (.ref c), .val (.ref c)] [] := k.ifT (pc' := 54) d4_47 (XT.i0_eq_t (by decide)) (by decide)
  have k : W4 l Z n0 (QB (0 : Int32) h0) G s h0 0 0 55 #[.val (.ref a), .val (.ref c), .val (.ref c)] [(.int (0 : Int32))] := k.iconst (0) d4_54 rfl
  exact k.outZ (Or.inl rfl) d4_55 (by decide) (by decide) ⟨rfl, rfl⟩
theorem con4sr (l : Launch) (Z : State) (a0 : Array Value) (hw : ∀ d ∈ tables_1, d.before a0 Z = true) (a va c vc : Nat) (h0 : Heap) (n0 : Nat) (zc : Int32) (hzc : ¬ zc = 0) (S3 : Sta Z Z.heap "java/lang/String" "COMPACT_STRINGS" "Z" (.int zc)) (O : Old Z n0 h0) (Y1 : Exa Z h0 c "java/lang/String") (X2 : Fld Z h0 a "java/lang/String" "coder" "B" (.int 0)) (X3 : Fld Z h0 a "java/lang/String" "value" "[B" (.ref va)) (X4 : AV Z h0 va .byte [(.int (115 : Int32)), (.int (116 : Int32)), (.int (97 : Int32)), (.int (116 : Int32)), (.int (101 : Int32)), (.int (109 : Int32)), (.int (101 : Int32)), (.int (110 : Int32)), (.int (116 : Int32))]) (Y2 : Fld Z h0 c "java/lang/String" "coder" "B" (.int 0)) (Y3 : Fld Z h0 c "java/lang/String" "value" "[B" (.ref vc)) (Y4 : AV Z h0 vc .byte [(.int (114 : Int32)), (.int (101 : Int32)), (.int (112 : Int32)), (.int (111 : Int32)), (.int (114 : Int32)), (.int (116 : Int32))]) : Con l Z (⟨"java/lang/String", "equals", "(Ljava/lang/Object;)Z"⟩ : MethodName) jdk_42_method_66_code 3 (some .boolean) ({ frames := 1, cells := 0, slots := 0, locals := 14 } : Room) #[.ref a, .ref c] h0 n0 (QB (0 : Int32) h0) := by
  refine con4srn l Z a0 hw a va c vc h0 n0 zc hzc S3 O Y1 X2 X3 X4 Y2 Y3 Y4 (fun e => ?_)
  subst e
  have q := Value.ref.inj (Fld.uniq X3 Y3)
  subst q
  have u := congrArg List.length (AV.uniq X4 Y4)
  simp at u
set_option maxRecDepth 65536 in
set_option maxHeartbeats 40000000 in
theorem con3ss (l : Launch) (Z : State) (a0 : Array Value) (hw : ∀ d ∈ tables_1, d.before a0 Z = true) (a c : Nat) (h0 : Heap) (n0 : Nat) (A : AV Z h0 a .byte [(.int (115 : Int32)), (.int (116 : Int32)), (.int (97 : Int32)), (.int (116 : Int32)), (.int (101 : Int32)), (.int (109 : Int32)), (.int (101 : Int32)), (.int (110 : Int32)), (.int (116 : Int32))]) (B : AV Z h0 c .byte [(.int (115 : Int32)), (.int (116 : Int32)), (.int (97 : Int32)), (.int (116 : Int32)), (.int (101 : Int32)), (.int (109 : Int32)), (.int (101 : Int32)), (.int (110 : Int32)), (.int (116 : Int32))]) : Con l Z (⟨"java/lang/StringLatin1", "equals", "([B[B)Z"⟩ : MethodName) jdk_43_method_13_code 3 (some .boolean) ({ frames := 0, cells := 0, slots := 0, locals := 0 } : Room) #[.ref a, .ref c] h0 n0 (QB (1 : Int32) h0) := by
  refine Con.of pn3 (Ls := #[.val (.ref a), .val (.ref c), .unset]) (fun m => by first | (simp [entryFrame, mkF, argsToLocals, Value.category]; done) | rfl) ?_
  intro G s k
  have k : W3 l Z n0 (QB (1 : Int32) h0) G s h0 0 0 7 #[.val (.ref a), .val (.ref c), .unset] [] := ((((k.aloadN d3_0 rfl rfl).len (n := 9) A rfl d3_1).aloadN d3_2 rfl rfl).len (n := 9) B rfl d3_3).icF d3_4 (XT.ii_ne_f (by decide))
  have k : W3 l Z n0 (QB (1 : Int32) h0) G s h0 0 0 15 #[.val (.ref a), .val (.ref c), .val (.int (0 : Int32))] [] := (((((k.iconst (0) d3_7 rfl).istoreN d3_8 (Ls' := #[.val (.ref a), .val (.ref c), .val (.int (0 : Int32))]) rfl).iloadN d3_9 rfl).aloadN d3_10 rfl rfl).len (n := 9) A rfl d3_11).icF d3_12 (XT.ii_ge_f (by decide))
  have k : W3 l Z n0 (QB (1 : Int32) h0) G s h0 0 0 21 #[.val (.ref a), .val (.ref c), .val (.int (0 : Int32))] [(.int (115 : Int32)), (.int (115 : Int32))] := (((((k.aloadN d3_15 rfl rfl).iloadN d3_16 rfl).ldB A (by decide) rfl d3_17).aloadN d3_18 rfl rfl).iloadN d3_19 rfl).ldB B (by decide) rfl d3_20
  have k : W3 l Z n0 (QB (1 : Int32) h0) G s h0 0 0 26 #[.val (.ref a), .val (.ref c), .val (.int (0 : Int32))] [] := k.icT (pc' := 26) d3_21 (XT.ii_eq_t (by decide)) (by decide)
  have k : W3 l Z n0 (QB (1 : Int32) h0) G s h0 0 0 29 #[.val (.ref a), .val (.ref c), .val (.int ((0 : Int32) + (1 : Int32)))] [] := k.iinc (Ls' := #[.val (.ref a), .val (.ref c), .val (.int ((0 : Int32) + (1 : Int32)))]) (1) d3_26 rfl rfl rfl
  rw [show ((0 : Int32) + (1 : Int32) : Int32) = (1 : Int32) from by decide] at k
  have k : W3 l Z n0 (QB (1 : Int32) h0) G s h0 0 0 9 #[.val (.ref a), .val (.ref c), .val (.int (1 : Int32))] [] := k.goto (pc' := 9) d3_29 (by decide)
  have k : W3 l Z n0 (QB (1 : Int32) h0) G s h0 0 0 15 #[.val (.ref a), .val (.ref c), .val (.int (1 : Int32))] [] := (((k.iloadN d3_9 rfl).aloadN d3_10 rfl rfl).len (n := 9) A rfl d3_11).icF d3_12 (XT.ii_ge_f (by decide))
  have k : W3 l Z n0 (QB (1 : Int32) h0) G s h0 0 0 21 #[.val (.ref a), .val (.ref c), .val (.int (1 : Int32))] [(.int (116 : Int32)), (.int (116 : Int32))] := (((((k.aloadN d3_15 rfl rfl).iloadN d3_16 rfl).ldB A (by decide) rfl d3_17).aloadN d3_18 rfl rfl).iloadN d3_19 rfl).ldB B (by decide) rfl d3_20
  have k : W3 l Z n0 (QB (1 : Int32) h0) G s h0 0 0 26 #[.val (.ref a), .val (.ref c), .val (.int (1 : Int32))] [] := k.icT (pc' := 26) d3_21 (XT.ii_eq_t (by decide)) (by decide)
  have k : W3 l Z n0 (QB (1 : Int32) h0) G s h0 0 0 29 #[.val (.ref a), .val (.ref c), .val (.int ((1 : Int32) + (1 : Int32)))] [] := k.iinc (Ls' := #[.val (.ref a), .val (.ref c), .val (.int ((1 : Int32) + (1 : Int32)))]) (1) d3_26 rfl rfl rfl
  rw [show ((1 : Int32) + (1 : Int32) : Int32) = (2 : Int32) from by decide] at k
  have k : W3 l Z n0 (QB (1 : Int32) h0) G s h0 0 0 9 #[.val (.ref a), .val (.ref c), .val (.int (2 : Int32))] [] := k.goto (pc' := 9) d3_29 (by decide)
  have k : W3 l Z n0 (QB (1 : Int32) h0) G s h0 0 0 15 #[.val (.ref a), .val (.ref c), .val (.int (2 : Int32))] [] := (((k.iloadN d3_9 rfl).aloadN d3_10 rfl rfl).len (n := 9) A rfl d3_11).icF d3_12 (XT.ii_ge_f (by decide))
  have k : W3 l Z n0 (QB (1 : Int32) h0) G s h0 0 0 21 #[.val (.ref a), .val (.ref c), .val (.int (2 : Int32))] [(.int (97 : Int32)), (.int (97 : Int32))] := (((((k.aloadN d3_15 rfl rfl).iloadN d3_16 rfl).ldB A (by decide) rfl d3_17).aloadN d3_18 rfl rfl).iloadN d3_19 rfl).ldB B (by decide) rfl d3_20
  have k : W3 l Z n0 (QB (1 : Int32) h0) G s h0 0 0 26 #[.val (.ref a), .val (.ref c), .val (.int (2 : Int32))] [] := k.icT (pc' := 26) d3_21 (XT.ii_eq_t (by decide)) (by decide)
  have k : W3 l Z n0 (QB (1 : Int32) h0) G s h0 0 0 29 #[.val (.ref a), .val (.ref c), .val (.int ((2 : Int32) + (1 : Int32)))] [] := k.iinc (Ls' := #[.val (.ref a), .val (.ref c), .val (.int ((2 : Int32) + (1 : Int32)))]) (1) d3_26 rfl rfl rfl
  rw [show ((2 : Int32) + (1 : Int32) : Int32) = (3 : Int32) from by decide] at k
  have k : W3 l Z n0 (QB (1 : Int32) h0) G s h0 0 0 9 #[.val (.ref a), .val (.ref c), .val (.int (3 : Int32))] [] := k.goto (pc' := 9) d3_29 (by decide)
  have k : W3 l Z n0 (QB (1 : Int32) h0) G s h0 0 0 15 #[.val (.ref a), .val (.ref c), .val (.int (3 : Int32))] [] := (((k.iloadN d3_9 rfl).aloadN d3_10 rfl rfl).len (n := 9) A rfl d3_11).icF d3_12 (XT.ii_ge_f (by decide))
  have k : W3 l Z n0 (QB (1 : Int32) h0) G s h0 0 0 21 #[.val (.ref a), .val (.ref c), .val (.int (3 : Int32))] [(.int (116 : Int32)), (.int (116 : Int32))] := (((((k.aloadN d3_15 rfl rfl).iloadN d3_16 rfl).ldB A (by decide) rfl d3_17).aloadN d3_18 rfl rfl).iloadN d3_19 rfl).ldB B (by decide) rfl d3_20
  have k : W3 l Z n0 (QB (1 : Int32) h0) G s h0 0 0 26 #[.val (.ref a), .val (.ref c), .val (.int (3 : Int32))] [] := k.icT (pc' := 26) d3_21 (XT.ii_eq_t (by decide)) (by decide)
  have k : W3 l Z n0 (QB (1 : Int32) h0) G s h0 0 0 29 #[.val (.ref a), .val (.ref c), .val (.int ((3 : Int32) + (1 : Int32)))] [] := k.iinc (Ls' := #[.val (.ref a), .val (.ref c), .val (.int ((3 : Int32) + (1 : Int32)))]) (1) d3_26 rfl rfl rfl
  rw [show ((3 : Int32) + (1 : Int32) : Int32) = (4 : Int32) from by decide] at k
  have k : W3 l Z n0 (QB (1 : Int32) h0) G s h0 0 0 9 #[.val (.ref a), .val (.ref c), .val (.int (4 : Int32))] [] := k.goto (pc' := 9) d3_29 (by decide)
  have k : W3 l Z n0 (QB (1 : Int32) h0) G s h0 0 0 15 #[.val (.ref a), .val (.ref c), .val (.int (4 : Int32))] [] := (((k.iloadN d3_9 rfl).aloadN d3_10 rfl rfl).len (n := 9) A rfl d3_11).icF d3_12 (XT.ii_ge_f (by decide))
  have k : W3 l Z n0 (QB (1 : Int32) h0) G s h0 0 0 21 #[.val (.ref a), .val (.ref c), .val (.int (4 : Int32))] [(.int (101 : Int32)), (.int (101 : Int32))] := (((((k.aloadN d3_15 rfl rfl).iloadN d3_16 rfl).ldB A (by decide) rfl d3_17).aloadN d3_18 rfl rfl).iloadN d3_19 rfl).ldB B (by decide) rfl d3_20
  have k : W3 l Z n0 (QB (1 : Int32) h0) G s h0 0 0 26 #[.val (.ref a), .val (.ref c), .val (.int (4 : Int32))] [] := k.icT (pc' := 26) d3_21 (XT.ii_eq_t (by decide)) (by decide)
  have k : W3 l Z n0 (QB (1 : Int32) h0) G s h0 0 0 29 #[.val (.ref a), .val (.ref c), .val (.int ((4 : Int32) + (1 : Int32)))] [] := k.iinc (Ls' := #[.val (.ref a), .val (.ref c), .val (.int ((4 : Int32) + (1 : Int32)))]) (1) d3_26 rfl rfl rfl
  rw [show ((4 : Int32) + (1 : Int32) : Int32) = (5 : Int32) from by decide] at k
  have k : W3 l Z n0 (QB (1 : Int32) h0) G s h0 0 0 9 #[.val (.ref a), .val (.ref c), .val (.int (5 : Int32))] [] := k.goto (pc' := 9) d3_29 (by decide)
  have k : W3 l Z n0 (QB (1 : Int32) h0) G s h0 0 0 15 #[.val (.ref a), .val (.ref c), .val (.int (5 : Int32))] [] := (((k.iloadN d3_9 rfl).aloadN d3_10 rfl rfl).len (n := 9) A rfl d3_11).icF d3_12 (XT.ii_ge_f (by decide))
  have k : W3 l Z n0 (QB (1 : Int32) h0) G s h0 0 0 21 #[.val (.ref a), .val (.ref c), .val (.int (5 : Int32))] [(.int (109 : Int32)), (.int (109 : Int32))] := (((((k.aloadN d3_15 rfl rfl).iloadN d3_16 rfl).ldB A (by decide) rfl d3_17).aloadN d3_18 rfl rfl).iloadN d3_19 rfl).ldB B (by decide) rfl d3_20
  have k : W3 l Z n0 (QB (1 : Int32) h0) G s h0 0 0 26 #[.val (.ref a), .val (.ref c), .val (.int (5 : Int32))] [] := k.icT (pc' := 26) d3_21 (XT.ii_eq_t (by decide)) (by decide)
  have k : W3 l Z n0 (QB (1 : Int32) h0) G s h0 0 0 29 #[.val (.ref a), .val (.ref c), .val (.int ((5 : Int32) + (1 : Int32)))] [] := k.iinc (Ls' := #[.val (.ref a), .val (.ref c), .val (.int ((5 : Int32) + (1 : Int32)))]) (1) d3_26 rfl rfl rfl
  rw [show ((5 : Int32) + (1 : Int32) : Int32) = (6 : Int32) from by decide] at k
  have k : W3 l Z n0 (QB (1 : Int32) h0) G s h0 0 0 9 #[.val (.ref a), .val (.ref c), .val (.int (6 : Int32))] [] := k.goto (pc' := 9) d3_29 (by decide)
  have k : W3 l Z n0 (QB (1 : Int32) h0) G s h0 0 0 15 #[.val (.ref a), .val (.ref c), .val (.int (6 : Int32))] [] := (((k.iloadN d3_9 rfl).aloadN d3_10 rfl rfl).len (n := 9) A rfl d3_11).icF d3_12 (XT.ii_ge_f (by decide))
  have k : W3 l Z n0 (QB (1 : Int32) h0) G s h0 0 0 21 #[.val (.ref a), .val (.ref c), .val (.int (6 : Int32))] [(.int (101 : Int32)), (.int (101 : Int32))] := (((((k.aloadN d3_15 rfl rfl).iloadN d3_16 rfl).ldB A (by decide) rfl d3_17).aloadN d3_18 rfl rfl).iloadN d3_19 rfl).ldB B (by decide) rfl d3_20
  have k : W3 l Z n0 (QB (1 : Int32) h0) G s h0 0 0 26 #[.val (.ref a), .val (.ref c), .val (.int (6 : Int32))] [] := k.icT (pc' := 26) d3_21 (XT.ii_eq_t (by decide)) (by decide)
  have k : W3 l Z n0 (QB (1 : Int32) h0) G s h0 0 0 29 #[.val (.ref a), .val (.ref c), .val (.int ((6 : Int32) + (1 : Int32)))] [] := k.iinc (Ls' := #[.val (.ref a), .val (.ref c), .val (.int ((6 : Int32) + (1 : Int32)))]) (1) d3_26 rfl rfl rfl
  rw [show ((6 : Int32) + (1 : Int32) : Int32) = (7 : Int32) from by decide] at k
  have k : W3 l Z n0 (QB (1 : Int32) h0) G s h0 0 0 9 #[.val (.ref a), .val (.ref c), .val (.int (7 : Int32))] [] := k.goto (pc' := 9) d3_29 (by decide)
  have k : W3 l Z n0 (QB (1 : Int32) h0) G s h0 0 0 15 #[.val (.ref a), .val (.ref c), .val (.int (7 : Int32))] [] := (((k.iloadN d3_9 rfl).aloadN d3_10 rfl rfl).len (n := 9) A rfl d3_11).icF d3_12 (XT.ii_ge_f (by decide))
  have k : W3 l Z n0 (QB (1 : Int32) h0) G s h0 0 0 21 #[.val (.ref a), .val (.ref c), .val (.int (7 : Int32))] [(.int (110 : Int32)), (.int (110 : Int32))] := (((((k.aloadN d3_15 rfl rfl).iloadN d3_16 rfl).ldB A (by decide) rfl d3_17).aloadN d3_18 rfl rfl).iloadN d3_19 rfl).ldB B (by decide) rfl d3_20
  have k : W3 l Z n0 (QB (1 : Int32) h0) G s h0 0 0 26 #[.val (.ref a), .val (.ref c), .val (.int (7 : Int32))] [] := k.icT (pc' := 26) d3_21 (XT.ii_eq_t (by decide)) (by decide)
  have k : W3 l Z n0 (QB (1 : Int32) h0) G s h0 0 0 29 #[.val (.ref a), .val (.ref c), .val (.int ((7 : Int32) + (1 : Int32)))] [] := k.iinc (Ls' := #[.val (.ref a), .val (.ref c), .val (.int ((7 : Int32) + (1 : Int32)))]) (1) d3_26 rfl rfl rfl
  rw [show ((7 : Int32) + (1 : Int32) : Int32) = (8 : Int32) from by decide] at k
  have k : W3 l Z n0 (QB (1 : Int32) h0) G s h0 0 0 9 #[.val (.ref a), .val (.ref c), .val (.int (8 : Int32))] [] := k.goto (pc' := 9) d3_29 (by decide)
  have k : W3 l Z n0 (QB (1 : Int32) h0) G s h0 0 0 15 #[.val (.ref a), .val (.ref c), .val (.int (8 : Int32))] [] := (((k.iloadN d3_9 rfl).aloadN d3_10 rfl rfl).len (n := 9) A rfl d3_11).icF d3_12 (XT.ii_ge_f (by decide))
  have k : W3 l Z n0 (QB (1 : Int32) h0) G s h0 0 0 21 #[.val (.ref a), .val (.ref c), .val (.int (8 : Int32))] [(.int (116 : Int32)), (.int (116 : Int32))] := (((((k.aloadN d3_15 rfl rfl).iloadN d3_16 rfl).ldB A (by decide) rfl d3_17).aloadN d3_18 rfl rfl).iloadN d3_19 rfl).ldB B (by decide) rfl d3_20
  have k : W3 l Z n0 (QB (1 : Int32) h0) G s h0 0 0 26 #[.val (.ref a), .val (.ref c), .val (.int (8 : Int32))] [] := k.icT (pc' := 26) d3_21 (XT.ii_eq_t (by decide)) (by decide)
  have k : W3 l Z n0 (QB (1 : Int32) h0) G s h0 0 0 29 #[.val (.ref a), .val (.ref c), .val (.int ((8 : Int32) + (1 : Int32)))] [] := k.iinc (Ls' := #[.val (.ref a), .val (.ref c), .val (.int ((8 : Int32) + (1 : Int32)))]) (1) d3_26 rfl rfl rfl
  rw [show ((8 : Int32) + (1 : Int32) : Int32) = (9 : Int32) from by decide] at k
  have k : W3 l Z n0 (QB (1 : Int32) h0) G s h0 0 0 9 #[.val (.ref a), .val (.ref c), .val (.int (9 : Int32))] [] := k.goto (pc' := 9) d3_29 (by decide)
  have k : W3 l Z n0 (QB (1 : Int32) h0) G s h0 0 0 32 #[.val (.ref a), .val (.ref c), .val (.int (9 : Int32))] [] := (((k.iloadN d3_9 rfl).aloadN d3_10 rfl rfl).len (n := 9) A rfl d3_11).icT (pc' := 32) d3_12 (XT.ii_ge_t (by decide)) (by decide)
  have k : W3 l Z n0 (QB (1 : Int32) h0) G s h0 0 0 33 #[.val (.ref a), .val (.ref c), .val (.int (9 : Int32))] [(.int (1 : Int32))] := k.iconst (1) d3_32 rfl
  exact k.outZ (Or.inr rfl) d3_33 (by decide) (by decide) ⟨rfl, rfl⟩
set_option maxRecDepth 65536 in
set_option maxHeartbeats 40000000 in
theorem con4ssn (l : Launch) (Z : State) (a0 : Array Value) (hw : ∀ d ∈ tables_1, d.before a0 Z = true) (a va c vc : Nat) (h0 : Heap) (n0 : Nat) (zc : Int32) (hzc : ¬ zc = 0) (S3 : Sta Z Z.heap "java/lang/String" "COMPACT_STRINGS" "Z" (.int zc)) (O : Old Z n0 h0) (Y1 : Exa Z h0 c "java/lang/String") (X2 : Fld Z h0 a "java/lang/String" "coder" "B" (.int 0)) (X3 : Fld Z h0 a "java/lang/String" "value" "[B" (.ref va)) (X4 : AV Z h0 va .byte [(.int (115 : Int32)), (.int (116 : Int32)), (.int (97 : Int32)), (.int (116 : Int32)), (.int (101 : Int32)), (.int (109 : Int32)), (.int (101 : Int32)), (.int (110 : Int32)), (.int (116 : Int32))]) (Y2 : Fld Z h0 c "java/lang/String" "coder" "B" (.int 0)) (Y3 : Fld Z h0 c "java/lang/String" "value" "[B" (.ref vc)) (Y4 : AV Z h0 vc .byte [(.int (115 : Int32)), (.int (116 : Int32)), (.int (97 : Int32)), (.int (116 : Int32)), (.int (101 : Int32)), (.int (109 : Int32)), (.int (101 : Int32)), (.int (110 : Int32)), (.int (116 : Int32))]) (ne : a ≠ c) : Con l Z (⟨"java/lang/String", "equals", "(Ljava/lang/Object;)Z"⟩ : MethodName) jdk_42_method_66_code 3 (some .boolean) ({ frames := 1, cells := 0, slots := 0, locals := 14 } : Room) #[.ref a, .ref c] h0 n0 (QB (1 : Int32) h0) := by
  refine Con.of pn4 (Ls := #[.val (.ref a), .val (.ref c), .unset]) (fun m => by first | (simp [entryFrame, mkF, argsToLocals, Value.category]; done) | rfl) ?_
  intro G s k
  have k : W4 l Z n0 (QB (1 : Int32) h0) G s h0 0 0 2 #[.val (.ref a), .val (.ref c), .unset] [(.ref c), (.ref a)] := (k.aloadN d4_0 rfl rfl).aloadN d4_1 rfl rfl
  have k : W4 l Z n0 (QB (1 : Int32) h0) G s h0 0 0 7 #[.val (.ref a), .val (.ref c), .unset] [] := k.acT (pc' := 7) d4_2 rfl rfl (XT.aa_ne_t (fun q => ne (Value.ref.inj q))) (by decide)
  have k : W4 l Z n0 (QB (1 : Int32) h0) G s h0 0 0 14 #[.val (.ref a), .val (.ref c), .unset] [] := ((k.aloadN d4_7 rfl rfl).inst (hw _ (List.mem_of_getElem? (i := 23) rfl)) (Ins.self Y1) d4_8).ifF d4_11 (XT.i0_eq_f (by decide))
  have k : W4 l Z n0 (QB (1 : Int32) h0) G s h0 0 0 22 #[.val (.ref a), .val (.ref c), .val (.ref c)] [(.int zc)] := (((k.aloadN d4_14 rfl rfl).cast (hw _ (List.mem_of_getElem? (i := 23) rfl)) (Ins.self Y1) d4_15).astoreN d4_18 rfl (Ls' := #[.val (.ref a), .val (.ref c), .val (.ref c)]) rfl).getS (hw _ (List.mem_of_getElem? (i := 25) rfl)) (S3.ext O.2) d4_19
  have k : W4 l Z n0 (QB (1 : Int32) h0) G s h0 0 0 25 #[.val (.ref a), .val (.ref c), .val (.ref c)] [] := k.ifF d4_22 (XT.i0_eq_f hzc)
  have k : W4 l Z n0 (QB (1 : Int32) h0) G s h0 0 0 36 #[.val (.ref a), .val (.ref c), .val (.ref c)] [] := ((((k.aloadN d4_25 rfl rfl).getF (hw _ (List.mem_of_getElem? (i := 26) rfl)) X2 d4_26).aloadN d4_29 rfl rfl).getF (hw _ (List.mem_of_getElem? (i := 26) rfl)) Y2 d4_30).icF d4_33 (XT.ii_ne_f (by decide))
  have k : W4 l Z n0 (QB (1 : Int32) h0) G s h0 0 0 44 #[.val (.ref a), .val (.ref c), .val (.ref c)] [(.ref vc), (.ref va)] := (((k.aloadN d4_36 rfl rfl).getF (hw _ (List.mem_of_getElem? (i := 27) rfl)) X3 d4_37).aloadN d4_40 rfl rfl).getF (hw _ (List.mem_of_getElem? (i := 27) rfl)) Y3 d4_41
  obtain ⟨v3, h3, ⟨rfl, rfl⟩, k⟩ := k.callS (hw _ (List.mem_of_getElem? (i := 28) rfl)) (hw _ (List.mem_of_getElem? (i := 29) rfl)) (hw _ (List.mem_of_getElem? (i := 30) rfl)) (hw _ (List.mem_of_getElem? (i := 31) rfl)) (by decide) (con3ss l Z a0 hw va vc h0 n0 X4 Y4) (argsL := [(.ref va), (.ref vc)]) (rest := []) (lenOf pd3 rfl) d4_44 rfl rfl 0 (Nat.le_of_eq rfl) (by decide) (by decide) (by decide) (by decide)
  have k : W4 l Z n0 (QB (1 : Int32) h0) G s h0 0 0 47 #[.val (.ref a), .val (.ref c), .val (.ref c)] [(.int (1 : Int32))] := k
  have k : W4 l Z n0 (QB (1 : Int32) h0) G s h0 0 0 50 #[.val (.ref a), .val (.ref c), .val (.ref c)] [] := k.ifF d4_47 (XT.i0_eq_f (by decide))
  have k : W4 l Z n0 (QB (1 : Int32) h0) G s h0 0 0 55 #[.val (.ref a), .val (.ref c), .val (.ref c)] [(.int (1 : Int32))] := (k.iconst (1) d4_50 rfl).goto (pc' := 55) d4_51 (by decide)
  exact k.outZ (Or.inr rfl) d4_55 (by decide) (by decide) ⟨rfl, rfl⟩
theorem con4ss (l : Launch) (Z : State) (a0 : Array Value) (hw : ∀ d ∈ tables_1, d.before a0 Z = true) (a va c vc : Nat) (h0 : Heap) (n0 : Nat) (zc : Int32) (hzc : ¬ zc = 0) (S3 : Sta Z Z.heap "java/lang/String" "COMPACT_STRINGS" "Z" (.int zc)) (O : Old Z n0 h0) (Y1 : Exa Z h0 c "java/lang/String") (X2 : Fld Z h0 a "java/lang/String" "coder" "B" (.int 0)) (X3 : Fld Z h0 a "java/lang/String" "value" "[B" (.ref va)) (X4 : AV Z h0 va .byte [(.int (115 : Int32)), (.int (116 : Int32)), (.int (97 : Int32)), (.int (116 : Int32)), (.int (101 : Int32)), (.int (109 : Int32)), (.int (101 : Int32)), (.int (110 : Int32)), (.int (116 : Int32))]) (Y2 : Fld Z h0 c "java/lang/String" "coder" "B" (.int 0)) (Y3 : Fld Z h0 c "java/lang/String" "value" "[B" (.ref vc)) (Y4 : AV Z h0 vc .byte [(.int (115 : Int32)), (.int (116 : Int32)), (.int (97 : Int32)), (.int (116 : Int32)), (.int (101 : Int32)), (.int (109 : Int32)), (.int (101 : Int32)), (.int (110 : Int32)), (.int (116 : Int32))]) : Con l Z (⟨"java/lang/String", "equals", "(Ljava/lang/Object;)Z"⟩ : MethodName) jdk_42_method_66_code 3 (some .boolean) ({ frames := 1, cells := 0, slots := 0, locals := 14 } : Room) #[.ref a, .ref c] h0 n0 (QB (1 : Int32) h0) := by
  by_cases e : a = c
  · subst e; exact con4i l Z a0 hw a h0 n0
  · exact con4ssn l Z a0 hw a va c vc h0 n0 zc hzc S3 O Y1 X2 X3 X4 Y2 Y3 Y4 e
theorem pn0 : plainFor x = true := plainFor_of_name (show plainName "com/example/tallybook/tallybook/camt/StatementKindMayGiveInformationBalanceAlonePinLaw" = true by first | (simp [plainName, overriddenIn]; done) | decide +kernel)
abbrev W0 (l : Launch) (Z : State) (n0 : Nat) (P : Option Value → Heap → Prop) (G : Prop) (vm : Vm) := Wk l Z room_1 x code maxLocals ret n0 (ExW Z room_1 n0 P G) (Z.setVm vm)
abbrev Q0 : Option Value → Heap → Prop := fun v h => v = some (.int 1)
set_option maxRecDepth 65536 in
set_option maxHeartbeats 40000000 in
theorem con0 (l : Launch) (Z : State) (a0 : Array Value) (hw : ∀ d ∈ tables_1, d.before a0 Z = true) (p0 : Int32) (ps pr ls lv rs rv : Nat) (zc : Int32) (hzc : ¬ zc = 0) (S3 : Sta Z Z.heap "java/lang/String" "COMPACT_STRINGS" "Z" (.int zc)) (S1 : Sta Z Z.heap "com/example/tallybook/tallybook/camt/StatementKind" "STATEMENT" "Lcom/example/tallybook/tallybook/camt/StatementKind;" (.ref ps)) (S2 : Sta Z Z.heap "com/example/tallybook/tallybook/camt/StatementKind" "REPORT" "Lcom/example/tallybook/tallybook/camt/StatementKind;" (.ref pr)) (E1 : Exa Z Z.heap ps "com/example/tallybook/tallybook/camt/StatementKind") (E2 : Exa Z Z.heap pr "com/example/tallybook/tallybook/camt/StatementKind") (F1 : Fld Z Z.heap ps "com/example/tallybook/tallybook/camt/StatementKind" "label" "Ljava/lang/String;" (.ref ls)) (F2 : Fld Z Z.heap pr "com/example/tallybook/tallybook/camt/StatementKind" "label" "Ljava/lang/String;" (.ref rs)) (L1 : Exa Z Z.heap ls "java/lang/String") (L2 : Fld Z Z.heap ls "java/lang/String" "coder" "B" (.int 0)) (L3 : Fld Z Z.heap ls "java/lang/String" "value" "[B" (.ref lv)) (L4 : AV Z Z.heap lv .byte [(.int (115 : Int32)), (.int (116 : Int32)), (.int (97 : Int32)), (.int (116 : Int32)), (.int (101 : Int32)), (.int (109 : Int32)), (.int (101 : Int32)), (.int (110 : Int32)), (.int (116 : Int32))]) (M1 : Exa Z Z.heap rs "java/lang/String") (M2 : Fld Z Z.heap rs "java/lang/String" "coder" "B" (.int 0)) (M3 : Fld Z Z.heap rs "java/lang/String" "value" "[B" (.ref rv)) (M4 : AV Z Z.heap rv .byte [(.int (114 : Int32)), (.int (101 : Int32)), (.int (112 : Int32)), (.int (111 : Int32)), (.int (114 : Int32)), (.int (116 : Int32))]) (hcw : Jvm.Lit.compactW.before a0 Z = true) (K1 : Jvm.Lit.constHeld Z "com/example/tallybook/tallybook/camt/StatementKindMayGiveInformationBalanceAlonePinLaw" 20) (K2 : Jvm.Lit.constHeld Z "com/example/tallybook/tallybook/camt/StatementKindMayGiveInformationBalanceAlonePinLaw" 28) : ConW l Z x code maxLocals ret room_1 #[.int p0] Z.heap.size Q0 := by
  refine ConW.of pn0 (Ls := #[.val (.int p0), .unset, .unset]) (fun m => by first | (simp [entryFrame, mkF, argsToLocals, Value.category, maxLocals]; done) | rfl) ?_
  intro G k
  obtain ⟨n0, en0⟩ : ∃ n0, n0 = Z.heap.size := ⟨_, rfl⟩
  rw [← en0] at k
  have O : Old Z n0 Z.heap := ⟨en0.symm, Nat.le_refl _, fun _ _ q => q⟩
  have wS : ∀ a ∈ Bundle.stringAtoms, a.before a0 Z = true := by
    intro a ha
    simp only [Bundle.stringAtoms, List.mem_cons, List.not_mem_nil, or_false] at ha
    rcases ha with rfl | rfl | rfl | rfl | rfl | rfl | rfl
    · exact hw _ (List.mem_of_getElem? (i := 11) rfl)
    · exact hw _ (List.mem_of_getElem? (i := 12) rfl)
    · exact hw _ (List.mem_of_getElem? (i := 13) rfl)
    · exact hw _ (List.mem_of_getElem? (i := 14) rfl)
    · exact hw _ (List.mem_of_getElem? (i := 15) rfl)
    · exact hw _ (List.mem_of_getElem? (i := 16) rfl)
    · exact hw _ (List.mem_of_getElem? (i := 17) rfl)
  have hS : Z.Since Z.vm 0 := (State.WarmedH.refl Z).since 0
  have hk : 0 ≤ Z.heap.size := Nat.zero_le _
  have hI : IB Z Z.vm [] := IB.start
  have npr : ps ≠ pr := by
    intro e
    subst e
    have q := Value.ref.inj (Fld.uniq F1 F2)
    subst q
    have q := Value.ref.inj (Fld.uniq L3 M3)
    subst q
    have u := congrArg List.length (AV.uniq L4 M4)
    simp at u
  have k : W0 l Z n0 Q0 G Z.vm Z.heap 0 0 0 #[.val (.int p0), .unset, .unset] [] := k
  have k : W0 l Z n0 Q0 G Z.vm Z.heap 0 0 3 #[.val (.int p0), .unset, .unset] [(.int (p0 &&& (1 : Int32)))] := ((k.iloadN at_0 rfl).iconst (1) at_1 rfl).iand at_2
  by_cases c4 : (p0 &&& (1 : Int32)) = 0
  · have k : W0 l Z n0 Q0 G Z.vm Z.heap 0 0 6 #[.val (.int p0), .unset, .unset] [] := k.ifF at_3 (XT.i0_ne_f c4)
    have k : W0 l Z n0 Q0 G Z.vm Z.heap 0 0 15 #[.val (.int p0), .unset, .unset] [(.ref ps)] := (k.getS (hw _ (List.mem_of_getElem? (i := 0) rfl)) (S1.ext O.2) at_6).goto (pc' := 15) at_9 (by decide)
    have k : W0 l Z n0 Q0 G Z.vm Z.heap 0 0 17 #[.val (.int p0), .val (.ref ps), .unset] [(.ref ps)] := (k.astoreN at_15 rfl (Ls' := #[.val (.int p0), .val (.ref ps), .unset]) rfl).aloadN at_16 rfl rfl
    obtain ⟨v5, h5, ⟨rfl, rfl⟩, k⟩ := k.callV (hw _ (List.mem_of_getElem? (i := 3) rfl)) (hw _ (List.mem_of_getElem? (i := 4) rfl)) (hw _ (List.mem_of_getElem? (i := 5) rfl)) (hw _ (List.mem_of_getElem? (i := 6) rfl)) rfl (hw _ (List.mem_of_getElem? (i := 1) rfl)) (hw _ (List.mem_of_getElem? (i := 7) rfl)) (by decide) E1 (con1 l Z a0 hw ps ls Z.heap n0 F1) (argsL := []) (rest := []) (lenOf pd1 rfl) at_17 rfl rfl 0 (Nat.le_of_eq rfl) (by decide) (by decide) (by decide) (by decide)
    have k : W0 l Z n0 Q0 G Z.vm Z.heap 0 0 20 #[.val (.int p0), .val (.ref ps), .unset] [(.ref ls)] := k
    obtain ⟨vm6, k6, h6, s6, b6, K6, hS, hk, hI, X16, X26, X36, X46, k⟩ := k.ldcS (n := 24) (z := 6) (vs := [(.int (114 : Int32)), (.int (101 : Int32)), (.int (112 : Int32)), (.int (111 : Int32)), (.int (114 : Int32)), (.int (116 : Int32))]) (hw _ (List.mem_of_getElem? (i := 10) rfl)) wS hS hk en0 hI (by decide) K1 hcw ⟨by decide, rfl⟩ (by decide) rfl (by simp) at_20 (by decide) (by decide) (by decide) (by decide)
    have O := O.keep K6 all0
    have E1 := E1.keep K6
    have E2 := E2.keep K6
    have F1 := F1.keep K6 nin0
    have F2 := F2.keep K6 nin0
    have L1 := L1.keep K6
    have L2 := L2.keep K6 nin0
    have L3 := L3.keep K6 nin0
    have L4 := L4.keep K6 nin0
    have M1 := M1.keep K6
    have M2 := M2.keep K6 nin0
    have M3 := M3.keep K6 nin0
    have M4 := M4.keep K6 nin0
    have k : W0 l Z n0 Q0 G vm6 h6 2 28 22 #[.val (.int p0), .val (.ref ps), .unset] [(.ref s6), (.ref ls)] := k
    obtain ⟨v7, h7, ⟨rfl, rfl⟩, k⟩ := k.callV (hw _ (List.mem_of_getElem? (i := 18) rfl)) (hw _ (List.mem_of_getElem? (i := 19) rfl)) (hw _ (List.mem_of_getElem? (i := 20) rfl)) (hw _ (List.mem_of_getElem? (i := 21) rfl)) rfl (hw _ (List.mem_of_getElem? (i := 11) rfl)) (hw _ (List.mem_of_getElem? (i := 22) rfl)) (by decide) L1 (con4sr l Z a0 hw ls lv s6 b6 h6 n0 zc hzc S3 O X16 L2 L3 L4 X26 X36 X46) (argsL := [(.ref s6)]) (rest := []) (lenOf pd4 rfl) at_22 rfl rfl 0 (Nat.le_of_eq rfl) (by decide) (by decide) (by decide) (by decide)
    have k : W0 l Z n0 Q0 G vm6 h6 2 28 25 #[.val (.int p0), .val (.ref ps), .unset] [(.int (0 : Int32))] := k
    have k : W0 l Z n0 Q0 G vm6 h6 2 28 33 #[.val (.int p0), .val (.ref ps), .unset] [] := k.ifT (pc' := 33) at_25 (XT.i0_eq_t (by decide)) (by decide)
    have k : W0 l Z n0 Q0 G vm6 h6 2 28 34 #[.val (.int p0), .val (.ref ps), .unset] [(.ref ps)] := k.aloadN at_33 rfl rfl
    obtain ⟨v8, h8, ⟨rfl, rfl⟩, k⟩ := k.callV (hw _ (List.mem_of_getElem? (i := 3) rfl)) (hw _ (List.mem_of_getElem? (i := 4) rfl)) (hw _ (List.mem_of_getElem? (i := 5) rfl)) (hw _ (List.mem_of_getElem? (i := 6) rfl)) rfl (hw _ (List.mem_of_getElem? (i := 1) rfl)) (hw _ (List.mem_of_getElem? (i := 7) rfl)) (by decide) E1 (con1 l Z a0 hw ps ls h6 n0 F1) (argsL := []) (rest := []) (lenOf pd1 rfl) at_34 rfl rfl 0 (Nat.le_of_eq rfl) (by decide) (by decide) (by decide) (by decide)
    have k : W0 l Z n0 Q0 G vm6 h6 2 28 37 #[.val (.int p0), .val (.ref ps), .unset] [(.ref ls)] := k
    obtain ⟨vm9, k9, h9, s9, b9, K9, hS, hk, hI, X19, X29, X39, X49, k⟩ := k.ldcS (n := 36) (z := 9) (vs := [(.int (115 : Int32)), (.int (116 : Int32)), (.int (97 : Int32)), (.int (116 : Int32)), (.int (101 : Int32)), (.int (109 : Int32)), (.int (101 : Int32)), (.int (110 : Int32)), (.int (116 : Int32))]) (hw _ (List.mem_of_getElem? (i := 32) rfl)) wS hS hk en0 hI (by decide) K2 hcw ⟨by decide, rfl⟩ (by decide) rfl (by simp) at_37 (by decide) (by decide) (by decide) (by decide)
    have O := O.keep K9 all0
    have E1 := E1.keep K9
    have E2 := E2.keep K9
    have F1 := F1.keep K9 nin0
    have F2 := F2.keep K9 nin0
    have L1 := L1.keep K9
    have L2 := L2.keep K9 nin0
    have L3 := L3.keep K9 nin0
    have L4 := L4.keep K9 nin0
    have M1 := M1.keep K9
    have M2 := M2.keep K9 nin0
    have M3 := M3.keep K9 nin0
    have M4 := M4.keep K9 nin0
    have X16 := X16.keep K9
    have X26 := X26.keep K9 nin0
    have X36 := X36.keep K9 nin0
    have X46 := X46.keep K9 nin0
    have k : W0 l Z n0 Q0 G vm9 h9 4 68 39 #[.val (.int p0), .val (.ref ps), .unset] [(.ref s9), (.ref ls)] := k
    obtain ⟨v10, h10, ⟨rfl, rfl⟩, k⟩ := k.callV (hw _ (List.mem_of_getElem? (i := 18) rfl)) (hw _ (List.mem_of_getElem? (i := 19) rfl)) (hw _ (List.mem_of_getElem? (i := 20) rfl)) (hw _ (List.mem_of_getElem? (i := 21) rfl)) rfl (hw _ (List.mem_of_getElem? (i := 11) rfl)) (hw _ (List.mem_of_getElem? (i := 22) rfl)) (by decide) L1 (con4ss l Z a0 hw ls lv s9 b9 h9 n0 zc hzc S3 O X19 L2 L3 L4 X29 X39 X49) (argsL := [(.ref s9)]) (rest := []) (lenOf pd4 rfl) at_39 rfl rfl 0 (Nat.le_of_eq rfl) (by decide) (by decide) (by decide) (by decide)
    have k : W0 l Z n0 Q0 G vm9 h9 4 68 42 #[.val (.int p0), .val (.ref ps), .unset] [(.int (1 : Int32))] := k
    have k : W0 l Z n0 Q0 G vm9 h9 4 68 45 #[.val (.int p0), .val (.ref ps), .unset] [] := k.ifF at_42 (XT.i0_eq_f (by decide))
    have k : W0 l Z n0 Q0 G vm9 h9 4 68 52 #[.val (.int p0), .val (.ref ps), .val (.int (0 : Int32))] [] := ((k.iconst (0) at_45 rfl).istoreN at_46 (Ls' := #[.val (.int p0), .val (.ref ps), .val (.int (0 : Int32))]) rfl).goto (pc' := 52) at_47 (by decide)
    have k : W0 l Z n0 Q0 G vm9 h9 4 68 53 #[.val (.int p0), .val (.ref ps), .val (.int (0 : Int32))] [(.ref ps)] := k.aloadN at_52 rfl rfl
    obtain ⟨v11, h11, ⟨rfl, rfl⟩, k⟩ := k.callV (hw _ (List.mem_of_getElem? (i := 33) rfl)) (hw _ (List.mem_of_getElem? (i := 34) rfl)) (hw _ (List.mem_of_getElem? (i := 35) rfl)) (hw _ (List.mem_of_getElem? (i := 36) rfl)) rfl (hw _ (List.mem_of_getElem? (i := 1) rfl)) (hw _ (List.mem_of_getElem? (i := 37) rfl)) (by decide) E1 (con2n l Z a0 hw ps pr npr h9 n0 S2 O) (argsL := []) (rest := []) (lenOf pd2 rfl) at_53 rfl rfl 0 (Nat.le_of_eq rfl) (by decide) (by decide) (by decide) (by decide)
    have k : W0 l Z n0 Q0 G vm9 h9 4 68 56 #[.val (.int p0), .val (.ref ps), .val (.int (0 : Int32))] [(.int (0 : Int32))] := k
    have k : W0 l Z n0 Q0 G vm9 h9 4 68 60 #[.val (.int p0), .val (.ref ps), .val (.int (0 : Int32))] [] := (k.iloadN at_56 rfl).icF at_57 (XT.ii_ne_f (by decide))
    have k : W0 l Z n0 Q0 G vm9 h9 4 68 65 #[.val (.int p0), .val (.ref ps), .val (.int (0 : Int32))] [(.int (1 : Int32))] := (k.iconst (1) at_60 rfl).goto (pc' := 65) at_61 (by decide)
    exact k.outZW (Or.inr rfl) hS hk at_65 (by decide) (by decide) rfl
  · have k : W0 l Z n0 Q0 G Z.vm Z.heap 0 0 12 #[.val (.int p0), .unset, .unset] [] := k.ifT (pc' := 12) at_3 (XT.i0_ne_t c4) (by decide)
    have k : W0 l Z n0 Q0 G Z.vm Z.heap 0 0 17 #[.val (.int p0), .val (.ref pr), .unset] [(.ref pr)] := ((k.getS (hw _ (List.mem_of_getElem? (i := 40) rfl)) (S2.ext O.2) at_12).astoreN at_15 rfl (Ls' := #[.val (.int p0), .val (.ref pr), .unset]) rfl).aloadN at_16 rfl rfl
    obtain ⟨v12, h12, ⟨rfl, rfl⟩, k⟩ := k.callV (hw _ (List.mem_of_getElem? (i := 3) rfl)) (hw _ (List.mem_of_getElem? (i := 4) rfl)) (hw _ (List.mem_of_getElem? (i := 5) rfl)) (hw _ (List.mem_of_getElem? (i := 6) rfl)) rfl (hw _ (List.mem_of_getElem? (i := 1) rfl)) (hw _ (List.mem_of_getElem? (i := 7) rfl)) (by decide) E2 (con1 l Z a0 hw pr rs Z.heap n0 F2) (argsL := []) (rest := []) (lenOf pd1 rfl) at_17 rfl rfl 0 (Nat.le_of_eq rfl) (by decide) (by decide) (by decide) (by decide)
    have k : W0 l Z n0 Q0 G Z.vm Z.heap 0 0 20 #[.val (.int p0), .val (.ref pr), .unset] [(.ref rs)] := k
    obtain ⟨vm13, k13, h13, s13, b13, K13, hS, hk, hI, X113, X213, X313, X413, k⟩ := k.ldcS (n := 24) (z := 6) (vs := [(.int (114 : Int32)), (.int (101 : Int32)), (.int (112 : Int32)), (.int (111 : Int32)), (.int (114 : Int32)), (.int (116 : Int32))]) (hw _ (List.mem_of_getElem? (i := 10) rfl)) wS hS hk en0 hI (by decide) K1 hcw ⟨by decide, rfl⟩ (by decide) rfl (by simp) at_20 (by decide) (by decide) (by decide) (by decide)
    have O := O.keep K13 all0
    have E1 := E1.keep K13
    have E2 := E2.keep K13
    have F1 := F1.keep K13 nin0
    have F2 := F2.keep K13 nin0
    have L1 := L1.keep K13
    have L2 := L2.keep K13 nin0
    have L3 := L3.keep K13 nin0
    have L4 := L4.keep K13 nin0
    have M1 := M1.keep K13
    have M2 := M2.keep K13 nin0
    have M3 := M3.keep K13 nin0
    have M4 := M4.keep K13 nin0
    have k : W0 l Z n0 Q0 G vm13 h13 2 28 22 #[.val (.int p0), .val (.ref pr), .unset] [(.ref s13), (.ref rs)] := k
    obtain ⟨v14, h14, ⟨rfl, rfl⟩, k⟩ := k.callV (hw _ (List.mem_of_getElem? (i := 18) rfl)) (hw _ (List.mem_of_getElem? (i := 19) rfl)) (hw _ (List.mem_of_getElem? (i := 20) rfl)) (hw _ (List.mem_of_getElem? (i := 21) rfl)) rfl (hw _ (List.mem_of_getElem? (i := 11) rfl)) (hw _ (List.mem_of_getElem? (i := 22) rfl)) (by decide) M1 (con4rr l Z a0 hw rs rv s13 b13 h13 n0 zc hzc S3 O X113 M2 M3 M4 X213 X313 X413) (argsL := [(.ref s13)]) (rest := []) (lenOf pd4 rfl) at_22 rfl rfl 0 (Nat.le_of_eq rfl) (by decide) (by decide) (by decide) (by decide)
    have k : W0 l Z n0 Q0 G vm13 h13 2 28 25 #[.val (.int p0), .val (.ref pr), .unset] [(.int (1 : Int32))] := k
    have k : W0 l Z n0 Q0 G vm13 h13 2 28 28 #[.val (.int p0), .val (.ref pr), .unset] [] := k.ifF at_25 (XT.i0_eq_f (by decide))
    have k : W0 l Z n0 Q0 G vm13 h13 2 28 52 #[.val (.int p0), .val (.ref pr), .val (.int (1 : Int32))] [] := ((k.iconst (1) at_28 rfl).istoreN at_29 (Ls' := #[.val (.int p0), .val (.ref pr), .val (.int (1 : Int32))]) rfl).goto (pc' := 52) at_30 (by decide)
    have k : W0 l Z n0 Q0 G vm13 h13 2 28 53 #[.val (.int p0), .val (.ref pr), .val (.int (1 : Int32))] [(.ref pr)] := k.aloadN at_52 rfl rfl
    obtain ⟨v15, h15, ⟨rfl, rfl⟩, k⟩ := k.callV (hw _ (List.mem_of_getElem? (i := 33) rfl)) (hw _ (List.mem_of_getElem? (i := 34) rfl)) (hw _ (List.mem_of_getElem? (i := 35) rfl)) (hw _ (List.mem_of_getElem? (i := 36) rfl)) rfl (hw _ (List.mem_of_getElem? (i := 1) rfl)) (hw _ (List.mem_of_getElem? (i := 37) rfl)) (by decide) E2 (con2y l Z a0 hw pr h13 n0 S2 O) (argsL := []) (rest := []) (lenOf pd2 rfl) at_53 rfl rfl 0 (Nat.le_of_eq rfl) (by decide) (by decide) (by decide) (by decide)
    have k : W0 l Z n0 Q0 G vm13 h13 2 28 56 #[.val (.int p0), .val (.ref pr), .val (.int (1 : Int32))] [(.int (1 : Int32))] := k
    have k : W0 l Z n0 Q0 G vm13 h13 2 28 60 #[.val (.int p0), .val (.ref pr), .val (.int (1 : Int32))] [] := (k.iloadN at_56 rfl).icF at_57 (XT.ii_ne_f (by decide))
    have k : W0 l Z n0 Q0 G vm13 h13 2 28 65 #[.val (.int p0), .val (.ref pr), .val (.int (1 : Int32))] [(.int (1 : Int32))] := (k.iconst (1) at_60 rfl).goto (pc' := 65) at_61 (by decide)
    exact k.outZW (Or.inr rfl) hS hk at_65 (by decide) (by decide) rfl
theorem own_sets {tb : Tables} {e : Env} {args : Array Value} {s : State} (h : rest_1 tb e args s) : ∃ zc : Int32, (Term.static "java/lang/String" "COMPACT_STRINGS" "Z").eval args s none [] s = some (.int zc) ∧ ¬ zc = 0 := by
  obtain ⟨-, h⟩ := and_e (Cond.before_iff.mp (show rest_1_c.before args s = true from h))
  obtain ⟨h1, h⟩ := and_e h
  obtain ⟨h2, -⟩ := and_e h
  obtain ⟨zc, ev⟩ := is_v h1
  exact ⟨zc, ev, gotF (Cond.eq_ints ev (Term.int_eval 0)) (not_v h2)⟩
theorem own_sets0 {tb : Tables} {e : Env} {args : Array Value} {s : State} (h : rest_1 tb e args s) : (Jvm.Cond.initializedFor "java/lang/String" "COMPACT_STRINGS" "Z").before args s = true :=
  Cond.before_iff.mpr (and_e (Cond.before_iff.mp (show rest_1_c.before args s = true from h))).1
theorem own_compact {tb : Tables} {e : Env} {args : Array Value} {s : State} (h : rest_1 tb e args s) : Jvm.Lit.compactW.before args s = true := Cond.before_iff.mpr (and_e (and_e (and_e (Cond.before_iff.mp (show rest_1_c.before args s = true from h))).2).2).1
theorem own_eqI {args : Array Value} {s : State} {t : Term} {n : Int32} (h : (Jvm.Cond.eq t (.int n)).value args s none s [] = some true) : t.eval args s none [] s = some (.int n) := by
  obtain ⟨x, y, hx, hy, k1, k2⟩ := cmp_v (Or.inl h)
  obtain rfl : Value.int n = y := Option.some.inj hy
  cases x <;> simp [Kin, Value.isRef] at k1
  rename_i q
  rw [hx, gotT (Cond.eq_ints hx hy) h]
theorem own_len {args : Array Value} {s : State} {t : Term} {n : Int32} {a : Addr} {c : Cell} {ty : FieldType} (h : (Term.length t).eval args s none [] s = some (.int n)) (ht : t.eval args s none [] s = some (.ref a)) (A : Arr s s.heap a c ty) : c.slots.size = n.toNatClampNeg := by
  have ha : s.arrayAt? a = some c := IntBox.arrayAt_of A.1 A.2.1 A.2.2
  simp [Term.eval, ht, ha] at h
  obtain ⟨h1, h2⟩ := h
  have q := congrArg Int32.toNatClampNeg h2
  rw [← q]
  show _ = (c.slots.size.toInt32).toInt.toNat
  rw [len_toInt (by omega)]; exact (Int.toNat_natCast _).symm
theorem own_av6 {s : State} {a : Addr} {c : Cell} {x0 x1 x2 x3 x4 x5 : Value} (A : Arr s s.heap a c .byte) (hn : c.slots.size = 6) (h0 : c.slots[(0 : Int32).toNatClampNeg]? = some x0) (h1 : c.slots[(1 : Int32).toNatClampNeg]? = some x1) (h2 : c.slots[(2 : Int32).toNatClampNeg]? = some x2) (h3 : c.slots[(3 : Int32).toNatClampNeg]? = some x3) (h4 : c.slots[(4 : Int32).toNatClampNeg]? = some x4) (h5 : c.slots[(5 : Int32).toNatClampNeg]? = some x5) : AV s s.heap a .byte [x0, x1, x2, x3, x4, x5] := by
  refine ⟨by simp, c, A, ?_⟩
  apply Array.ext
  · rw [hn]; rfl
  · intro i u1 u2
    rw [hn] at u1
    have h0 : c.slots[0]? = some x0 := h0
    have h1 : c.slots[1]? = some x1 := h1
    have h2 : c.slots[2]? = some x2 := h2
    have h3 : c.slots[3]? = some x3 := h3
    have h4 : c.slots[4]? = some x4 := h4
    have h5 : c.slots[5]? = some x5 := h5
    rcases (show i = 0 ∨ i = 1 ∨ i = 2 ∨ i = 3 ∨ i = 4 ∨ i = 5 by omega) with rfl | rfl | rfl | rfl | rfl | rfl
    · exact (Array.getElem?_eq_some_iff.mp h0).2
    · exact (Array.getElem?_eq_some_iff.mp h1).2
    · exact (Array.getElem?_eq_some_iff.mp h2).2
    · exact (Array.getElem?_eq_some_iff.mp h3).2
    · exact (Array.getElem?_eq_some_iff.mp h4).2
    · exact (Array.getElem?_eq_some_iff.mp h5).2
theorem own_av9 {s : State} {a : Addr} {c : Cell} {x0 x1 x2 x3 x4 x5 x6 x7 x8 : Value} (A : Arr s s.heap a c .byte) (hn : c.slots.size = 9) (h0 : c.slots[(0 : Int32).toNatClampNeg]? = some x0) (h1 : c.slots[(1 : Int32).toNatClampNeg]? = some x1) (h2 : c.slots[(2 : Int32).toNatClampNeg]? = some x2) (h3 : c.slots[(3 : Int32).toNatClampNeg]? = some x3) (h4 : c.slots[(4 : Int32).toNatClampNeg]? = some x4) (h5 : c.slots[(5 : Int32).toNatClampNeg]? = some x5) (h6 : c.slots[(6 : Int32).toNatClampNeg]? = some x6) (h7 : c.slots[(7 : Int32).toNatClampNeg]? = some x7) (h8 : c.slots[(8 : Int32).toNatClampNeg]? = some x8) : AV s s.heap a .byte [x0, x1, x2, x3, x4, x5, x6, x7, x8] := by
  refine ⟨by simp, c, A, ?_⟩
  apply Array.ext
  · rw [hn]; rfl
  · intro i u1 u2
    rw [hn] at u1
    have h0 : c.slots[0]? = some x0 := h0
    have h1 : c.slots[1]? = some x1 := h1
    have h2 : c.slots[2]? = some x2 := h2
    have h3 : c.slots[3]? = some x3 := h3
    have h4 : c.slots[4]? = some x4 := h4
    have h5 : c.slots[5]? = some x5 := h5
    have h6 : c.slots[6]? = some x6 := h6
    have h7 : c.slots[7]? = some x7 := h7
    have h8 : c.slots[8]? = some x8 := h8
    rcases (show i = 0 ∨ i = 1 ∨ i = 2 ∨ i = 3 ∨ i = 4 ∨ i = 5 ∨ i = 6 ∨ i = 7 ∨ i = 8 by omega) with rfl | rfl | rfl | rfl | rfl | rfl | rfl | rfl | rfl
    · exact (Array.getElem?_eq_some_iff.mp h0).2
    · exact (Array.getElem?_eq_some_iff.mp h1).2
    · exact (Array.getElem?_eq_some_iff.mp h2).2
    · exact (Array.getElem?_eq_some_iff.mp h3).2
    · exact (Array.getElem?_eq_some_iff.mp h4).2
    · exact (Array.getElem?_eq_some_iff.mp h5).2
    · exact (Array.getElem?_eq_some_iff.mp h6).2
    · exact (Array.getElem?_eq_some_iff.mp h7).2
    · exact (Array.getElem?_eq_some_iff.mp h8).2
set_option maxRecDepth 65536 in
set_option maxHeartbeats 40000000 in
theorem comes_1 {Post : Tables → Env → Array Value → State → Outcome → State → Prop} (hpost : ∀ tb e args s v u, (limb_1_1.after args s (.returned v) u = true ∧ limb_1_2.after args s (.returned v) u = true ∧ True) → ReturnedEndW s (.returned v) u (Jvm.fieldLocs frame_1_writes args s ++ Jvm.arrayLocs frame_1_arrays args s ++ Jvm.staticLocs frame_1_statics s) 8 2112 → Post tb e args s (.returned v) u) :
    ArmFor flags0 classFile x code maxLocals ret World_1 tables_1 room_1 Calls_1 rest_1 Pre_1 Post := by
  intro l hfl _ _ p e ha hc hk s m args below hf hA hF happ hP
  obtain ⟨hcalls, hrest, hpre⟩ := hP
  obtain ⟨-, -, -, hnamed, -, -, -, hat⟩ := (Spec.applies_iff hf).mp happ
  obtain ⟨hg, hn⟩ := and_e (Cond.before_iff.mp (show (Jvm.Cond.and given_1 narrow_1).before args s = true from hpre))
  obtain ⟨h1, g0⟩ := and_e hg
  obtain ⟨w0, rfl⟩ : ∃ w0 : Value, args = #[w0] := by
    have hs : args.size = 1 := by simpa [Cond.value, given_1] using h1
    obtain ⟨L⟩ := args
    match L, hs with
    | [w0], _ => exact ⟨w0, rfl⟩
  have hw := fun d (hd : d ∈ tables_1) => atoms_spec (ws := Jvm.Cond.code x code maxLocals ret :: tables_1) hat d (List.mem_cons_of_mem _ hd)
  have q0 := g0
  obtain ⟨i0, e0⟩ := is_v q0
  obtain rfl : w0 = (.int i0) := Option.some.inj e0
  obtain ⟨c1, hn⟩ := and_e hn
  obtain ⟨c2, hn⟩ := and_e hn
  obtain ⟨c3, hn⟩ := and_e hn
  obtain ⟨c4, hn⟩ := and_e hn
  obtain ⟨c5, hn⟩ := and_e hn
  obtain ⟨c6, hn⟩ := and_e hn
  obtain ⟨c7, hn⟩ := and_e hn
  obtain ⟨c8, hn⟩ := and_e hn
  obtain ⟨c9, hn⟩ := and_e hn
  obtain ⟨c10, hn⟩ := and_e hn
  obtain ⟨c11, hn⟩ := and_e hn
  obtain ⟨c12, hn⟩ := and_e hn
  obtain ⟨c13, hn⟩ := and_e hn
  obtain ⟨c14, hn⟩ := and_e hn
  obtain ⟨c15, hn⟩ := and_e hn
  obtain ⟨c16, hn⟩ := and_e hn
  obtain ⟨c17, hn⟩ := and_e hn
  obtain ⟨c18, hn⟩ := and_e hn
  obtain ⟨c19, hn⟩ := and_e hn
  obtain ⟨c20, hn⟩ := and_e hn
  obtain ⟨c21, hn⟩ := and_e hn
  obtain ⟨c22, hn⟩ := and_e hn
  obtain ⟨c23, hn⟩ := and_e hn
  obtain ⟨c24, hn⟩ := and_e hn
  obtain ⟨c25, hn⟩ := and_e hn
  obtain ⟨c26, hn⟩ := and_e hn
  have c27 := hn
  obtain ⟨zc, evz, hz⟩ : ∃ zc : Int32, (Term.static "java/lang/String" "COMPACT_STRINGS" "Z").eval #[.int i0] s none [] s = some (.int zc) ∧ ¬ zc = 0 := own_sets hrest
  have S3 : Sta s s.heap "java/lang/String" "COMPACT_STRINGS" "Z" (.int zc) := Sta.start evz (Or.inl (own_sets0 hrest))
  obtain ⟨ps, evps⟩ := exa_v c1
  have ES : Exa s s.heap ps "com/example/tallybook/tallybook/camt/StatementKind" := Exa.start evps c1
  have SS : Sta s s.heap "com/example/tallybook/tallybook/camt/StatementKind" "STATEMENT" "Lcom/example/tallybook/tallybook/camt/StatementKind;" (.ref ps) := Sta.start evps (Or.inr ⟨hw _ (List.mem_of_getElem? (i := 1) rfl), hw _ (List.mem_of_getElem? (i := 2) rfl)⟩)
  obtain ⟨ls, evls⟩ := exa_v c2
  have FS : Fld s s.heap ps "com/example/tallybook/tallybook/camt/StatementKind" "label" "Ljava/lang/String;" (.ref ls) := Fld.start ((fld_at evps).symm.trans evls)
  have Els : Exa s s.heap ls "java/lang/String" := Exa.start evls c2
  have CS : Fld s s.heap ls "java/lang/String" "coder" "B" (.int 0) := Fld.start ((fld_at evls).symm.trans (own_eqI c3))
  obtain ⟨lv, evlv⟩ := arr_v c4
  have VS : Fld s s.heap ls "java/lang/String" "value" "[B" (.ref lv) := Fld.start ((fld_at evls).symm.trans evlv)
  obtain ⟨clS, AS⟩ := Arr.start evlv c4
  have NS := own_len (own_eqI c5) evlv AS
  have AVS : AV s s.heap lv .byte [(.int (115 : Int32)), (.int (116 : Int32)), (.int (97 : Int32)), (.int (116 : Int32)), (.int (101 : Int32)), (.int (109 : Int32)), (.int (101 : Int32)), (.int (110 : Int32)), (.int (116 : Int32))] := own_av9 AS (NS.trans rfl) (elem_in (own_eqI c13) evlv (Term.int_eval _) AS.1).2 (elem_in (own_eqI c14) evlv (Term.int_eval _) AS.1).2 (elem_in (own_eqI c15) evlv (Term.int_eval _) AS.1).2 (elem_in (own_eqI c16) evlv (Term.int_eval _) AS.1).2 (elem_in (own_eqI c17) evlv (Term.int_eval _) AS.1).2 (elem_in (own_eqI c18) evlv (Term.int_eval _) AS.1).2 (elem_in (own_eqI c19) evlv (Term.int_eval _) AS.1).2 (elem_in (own_eqI c20) evlv (Term.int_eval _) AS.1).2 (elem_in (own_eqI c21) evlv (Term.int_eval _) AS.1).2
  obtain ⟨pr, evpr⟩ := exa_v c6
  have ER : Exa s s.heap pr "com/example/tallybook/tallybook/camt/StatementKind" := Exa.start evpr c6
  have SR : Sta s s.heap "com/example/tallybook/tallybook/camt/StatementKind" "REPORT" "Lcom/example/tallybook/tallybook/camt/StatementKind;" (.ref pr) := Sta.start evpr (Or.inr ⟨hw _ (List.mem_of_getElem? (i := 1) rfl), hw _ (List.mem_of_getElem? (i := 39) rfl)⟩)
  obtain ⟨rs, evrs⟩ := exa_v c9
  have FR : Fld s s.heap pr "com/example/tallybook/tallybook/camt/StatementKind" "label" "Ljava/lang/String;" (.ref rs) := Fld.start ((fld_at evpr).symm.trans evrs)
  have Ers : Exa s s.heap rs "java/lang/String" := Exa.start evrs c9
  have CR : Fld s s.heap rs "java/lang/String" "coder" "B" (.int 0) := Fld.start ((fld_at evrs).symm.trans (own_eqI c10))
  obtain ⟨rv, evrv⟩ := arr_v c11
  have VR : Fld s s.heap rs "java/lang/String" "value" "[B" (.ref rv) := Fld.start ((fld_at evrs).symm.trans evrv)
  obtain ⟨clR, AR⟩ := Arr.start evrv c11
  have NR := own_len (own_eqI c12) evrv AR
  have AVR : AV s s.heap rv .byte [(.int (114 : Int32)), (.int (101 : Int32)), (.int (112 : Int32)), (.int (111 : Int32)), (.int (114 : Int32)), (.int (116 : Int32))] := own_av6 AR (NR.trans rfl) (elem_in (own_eqI c22) evrv (Term.int_eval _) AR.1).2 (elem_in (own_eqI c23) evrv (Term.int_eval _) AR.1).2 (elem_in (own_eqI c24) evrv (Term.int_eval _) AR.1).2 (elem_in (own_eqI c25) evrv (Term.int_eval _) AR.1).2 (elem_in (own_eqI c26) evrv (Term.int_eval _) AR.1).2 (elem_in (own_eqI c27) evrv (Term.int_eval _) AR.1).2
  have hcw : Jvm.Lit.compactW.before #[.int i0] s = true := own_compact hrest
  have H1 : Jvm.Lit.constHeld s "com/example/tallybook/tallybook/camt/StatementKindMayGiveInformationBalanceAlonePinLaw" 20 := hcalls.1 _ (List.mem_of_getElem? (i := 0) rfl)
  have H2 : Jvm.Lit.constHeld s "com/example/tallybook/tallybook/camt/StatementKindMayGiveInformationBalanceAlonePinLaw" 28 := hcalls.1 _ (List.mem_of_getElem? (i := 1) rfl)
  obtain ⟨n, o, h1, h2, h3, _, L, rfl, ⟨N, rfl⟩, hq⟩ := con0 l s _ hw i0 ps pr ls lv rs rv zc hz S3 SS SR ES ER FS FR Els CS VS AVS Ers CR VR AVR hcw H1 H2 tables_1 p e ha hc hk s m _ below hf ((Spec.applies_iff_loose hf).mp happ).1 ⟨rfl, rfl⟩ trivial
  refine ⟨n, _, h1, h2, h3, hpost _ _ _ _ _ _ ⟨Cond.after_iff.mpr rfl, Cond.after_iff.mpr (eq_i res_at (Term.int_eval (1)) rfl), trivial⟩ ⟨hq.1, hq.2.1, hq.2.2.1, (hq.2.2.2.sift fun y hy => Or.inr (N y hy)).mono (by decide) (by decide)⟩⟩
theorem main_1_1 : Claimed_1_1 := comes_1 fun _ _ _ _ _ _ h hF => ⟨h.1, hF⟩
theorem main_1_2 : Claimed_1_2 := comes_1 fun _ _ _ _ _ _ h hF => ⟨h.2.1, hF⟩
end Jvm.Pilot.@@N@@
namespace Jvm.Pilot.@@N@@
open Jvm Jvm.ClassFile Sem Op Lib Jvm.Free Jvm.Stand Jvm.Pilot.@@N@@.Jvm.D
/-! MADE BY PROGRAM (witnessworld.py) out of the Statement's table words and the real class files: 18 classes; the members and pool entries that the words name. The judged class is class 1, her method 1. -/
namespace start1
open Jvm.ClassFile
def u (s : String) : CpInfo := .utf8 (stringToUtf16 s)
/-- a pool by its gaps: so many unusable entries, then the entry; so many at the end -/
def gap : Nat → List CpInfo → List CpInfo
  | 0, r => r
  | n + 1, r => .unusable :: gap n r
def poolList (es : List (Nat × CpInfo)) (last : Nat) : List CpInfo := es.foldr (fun e r => gap e.1 (e.2 :: r)) (gap last [])
def pool (es : List (Nat × CpInfo)) (last : Nat) : Array CpInfo := ⟨poolList es last⟩
def fileOf (pool : Array CpInfo) (this : Nat) (attrs : Array Attribute := #[]) (ms : Array MethodInfo := #[]) (fl : Nat := 33) (sup : Nat := 0) (ifs : Array Nat := #[]) (fds : Array FieldInfo := #[]) : ClassFile where
  minorVersion := 0
  majorVersion := 65
  constantPool := pool
  accessFlags := fl
  thisClass := this
  superClass := sup
  interfaces := ifs
  fields := fds
  methods := ms
  attributes := attrs
def plain (name : String) (sup : Option ClassId) : Class where
  name := name
  kind := .ordinary
  loader := none
  accessFlags := 33
  super := sup
  interfaces := #[]
  cf := none
  fields := #[]
  methods := #[]
  instanceTypes := #[]
  staticTypes := #[]
  resolved := #[]
  callSites := []
  init := .initialized
  statics := none
  mirror := none

def pool0 : Array CpInfo := pool [(5, u "<init>"), (0, u "()V"), (1, .class_ 10), (1, u "java/lang/Object")] 113

def k0m0 : Method := { name := "<init>", desc := "()V", sig := { parameters := [], returnType := none }, accessFlags := 1, code := none }
/-- java/lang/Object -/
def k0 : Class := { plain "java/lang/Object" none with
  accessFlags := 33
  interfaces := #[]
  cf := some (fileOf pool0 8 #[] #[{ accessFlags := 1, nameIndex := 5, descriptorIndex := 6, attributes := #[] }] 33 0 #[] #[])
  fields := #[]
  methods := #[k0m0]
  instanceTypes := #[]
  staticTypes := #[]
  resolved := Array.replicate 124 none
  statics := none }

def pool1 : Array CpInfo := pool [(2, .class_ 4), (1, u "java/lang/Object"), (0, u "<init>"), (0, u "()V"), (0, .fieldref 8 9), (0, .class_ 10), (0, .nameAndType 11 12), (0, u "com/example/tallybook/tallybook/camt/StatementKind"), (0, u "STATEMENT"), (0, u "Lcom/example/tallybook/tallybook/camt/StatementKind;"), (0, .fieldref 8 14), (0, .nameAndType 15 12), (0, u "REPORT"), (0, .methodref 8 17), (0, .nameAndType 18 19), (0, u "label"), (0, u "()Ljava/lang/String;"), (0, .string 21), (0, u "report"), (0, .methodref 23 24), (0, .class_ 25), (0, .nameAndType 26 27), (0, u "java/lang/String"), (0, u "equals"), (0, u "(Ljava/lang/Object;)Z"), (0, .string 29), (0, u "statement"), (0, .methodref 8 31), (0, .nameAndType 32 33), (0, u "mayGiveInformationBalanceAlone"), (0, u "()Z"), (0, .class_ 35), (0, u "com/example/tallybook/tallybook/camt/StatementKindMayGiveInformationBalanceAlonePinLaw"), (2, u "law"), (0, u "(I)Z")] 3

def k1m0 : Method := { name := "<init>", desc := "()V", sig := { parameters := [], returnType := none }, accessFlags := 1, code := none }
def k1c1 : Code := { maxStack := 2, maxLocals := 3, code := code, exceptionTable := #[], attributes := #[] }
def k1m1 : Method := { name := "law", desc := "(I)Z", sig := { parameters := [.int], returnType := some .boolean }, accessFlags := 9, code := some k1c1 }
/-- com/example/tallybook/tallybook/camt/StatementKindMayGiveInformationBalanceAlonePinLaw -/
def k1 : Class := { plain "com/example/tallybook/tallybook/camt/StatementKindMayGiveInformationBalanceAlonePinLaw" (some 0) with
  accessFlags := 49
  interfaces := #[]
  cf := some (fileOf pool1 34 #[] #[{ accessFlags := 1, nameIndex := 5, descriptorIndex := 6, attributes := #[] }, { accessFlags := 9, nameIndex := 38, descriptorIndex := 39, attributes := #[] }] 49 2 #[] #[])
  fields := #[]
  methods := #[k1m0, k1m1]
  instanceTypes := #[]
  staticTypes := #[]
  resolved := Array.replicate 43 none
  statics := none }

def pool2 : Array CpInfo := pool [(1, .class_ 2), (0, u "java/lang/constant/Constable"), (0, .class_ 4), (0, u "java/lang/Object")] 6

/-- java/lang/constant/Constable -/
def k2 : Class := { plain "java/lang/constant/Constable" (some 0) with
  accessFlags := 1537
  interfaces := #[]
  cf := some (fileOf pool2 1 #[] #[] 1537 3 #[] #[])
  fields := #[]
  methods := #[]
  instanceTypes := #[]
  staticTypes := #[]
  resolved := Array.replicate 11 none
  statics := none }

def pool3 : Array CpInfo := pool [(1, .class_ 2), (0, u "java/lang/Comparable"), (0, .class_ 4), (0, u "java/lang/Object")] 7

/-- java/lang/Comparable -/
def k3 : Class := { plain "java/lang/Comparable" (some 0) with
  accessFlags := 1537
  interfaces := #[]
  cf := some (fileOf pool3 1 #[] #[] 1537 3 #[] #[])
  fields := #[]
  methods := #[]
  instanceTypes := #[]
  staticTypes := #[]
  resolved := Array.replicate 12 none
  statics := none }

def pool4 : Array CpInfo := pool [(1, .class_ 2), (0, u "java/io/Serializable"), (0, .class_ 4), (0, u "java/lang/Object")] 2

/-- java/io/Serializable -/
def k4 : Class := { plain "java/io/Serializable" (some 0) with
  accessFlags := 1537
  interfaces := #[]
  cf := some (fileOf pool4 1 #[] #[] 1537 3 #[] #[])
  fields := #[]
  methods := #[]
  instanceTypes := #[]
  staticTypes := #[]
  resolved := Array.replicate 7 none
  statics := none }

def pool5 : Array CpInfo := pool [(2, .class_ 4), (1, u "java/lang/Enum"), (0, u "name"), (0, u "Ljava/lang/String;"), (2, u "ordinal"), (0, u "I"), (1, .class_ 14), (1, u "java/lang/Object"), (4, u "hash"), (86, .class_ 108), (1, u "java/lang/Enum$EnumDesc"), (2, .class_ 112), (0, u "java/lang/constant/Constable"), (0, .class_ 114), (0, u "java/lang/Comparable"), (0, .class_ 116), (0, u "java/io/Serializable")] 87

/-- java/lang/Enum -/
def k5 : Class := { plain "java/lang/Enum" (some 0) with
  accessFlags := 1057
  interfaces := #[2, 3, 4]
  cf := some (fileOf pool5 2 #[.nestMembers #[106]] #[] 1057 12 #[111, 113, 115] #[{ accessFlags := 18, nameIndex := 5, descriptorIndex := 6, attributes := #[] }, { accessFlags := 18, nameIndex := 9, descriptorIndex := 10, attributes := #[] }, { accessFlags := 2, nameIndex := 19, descriptorIndex := 10, attributes := #[] }])
  fields := #[{ name := "name", type := (.object "java/lang/String"), accessFlags := 18, slot := 0, constantValue := 0 }, { name := "ordinal", type := .int, accessFlags := 18, slot := 1, constantValue := 0 }, { name := "hash", type := .int, accessFlags := 2, slot := 2, constantValue := 0 }]
  methods := #[]
  instanceTypes := #[(.object "java/lang/String"), .int, .int]
  staticTypes := #[]
  resolved := Array.replicate 204 none
  statics := none }

def pool6 : Array CpInfo := pool [(1, .class_ 2), (0, u "com/example/tallybook/tallybook/camt/StatementKind"), (2, u "STATEMENT"), (0, u "Lcom/example/tallybook/tallybook/camt/StatementKind;"), (0, .fieldref 1 8), (0, .nameAndType 9 6), (0, u "REPORT"), (2, u "$VALUES"), (0, u "[Lcom/example/tallybook/tallybook/camt/StatementKind;"), (6, .class_ 22), (1, u "java/lang/Enum"), (6, .fieldref 1 30), (0, .nameAndType 31 32), (0, u "label"), (0, u "Ljava/lang/String;"), (2, u "message"), (2, u "element"), (2, u "pagination"), (42, u "()Ljava/lang/String;"), (3, u "()Z"), (0, u "mayGiveInformationBalanceAlone")] 5

def k6c0 : Code := { maxStack := 1, maxLocals := 1, code := prog_36_method_4_code, exceptionTable := #[], attributes := #[] }
def k6m0 : Method := { name := "label", desc := "()Ljava/lang/String;", sig := { parameters := [], returnType := some (.object "java/lang/String") }, accessFlags := 1, code := some k6c0 }
def k6c1 : Code := { maxStack := 2, maxLocals := 1, code := prog_36_method_10_code, exceptionTable := #[], attributes := #[] }
def k6m1 : Method := { name := "mayGiveInformationBalanceAlone", desc := "()Z", sig := { parameters := [], returnType := some .boolean }, accessFlags := 0, code := some k6c1 }
/-- com/example/tallybook/tallybook/camt/StatementKind -/
def k6 : Class := { plain "com/example/tallybook/tallybook/camt/StatementKind" (some 5) with
  accessFlags := 16433
  interfaces := #[]
  cf := some (fileOf pool6 1 #[] #[{ accessFlags := 1, nameIndex := 31, descriptorIndex := 84, attributes := #[] }, { accessFlags := 0, nameIndex := 89, descriptorIndex := 88, attributes := #[] }] 16433 20 #[] #[{ accessFlags := 16409, nameIndex := 5, descriptorIndex := 6, attributes := #[] }, { accessFlags := 16409, nameIndex := 9, descriptorIndex := 6, attributes := #[] }, { accessFlags := 18, nameIndex := 31, descriptorIndex := 32, attributes := #[] }, { accessFlags := 18, nameIndex := 35, descriptorIndex := 32, attributes := #[] }, { accessFlags := 18, nameIndex := 38, descriptorIndex := 32, attributes := #[] }, { accessFlags := 18, nameIndex := 41, descriptorIndex := 32, attributes := #[] }, { accessFlags := 4122, nameIndex := 12, descriptorIndex := 13, attributes := #[] }])
  fields := #[{ name := "STATEMENT", type := (.object "com/example/tallybook/tallybook/camt/StatementKind"), accessFlags := 16409, slot := 0, constantValue := 0 }, { name := "REPORT", type := (.object "com/example/tallybook/tallybook/camt/StatementKind"), accessFlags := 16409, slot := 1, constantValue := 0 }, { name := "label", type := (.object "java/lang/String"), accessFlags := 18, slot := 3, constantValue := 0 }, { name := "message", type := (.object "java/lang/String"), accessFlags := 18, slot := 4, constantValue := 0 }, { name := "element", type := (.object "java/lang/String"), accessFlags := 18, slot := 5, constantValue := 0 }, { name := "pagination", type := (.object "java/lang/String"), accessFlags := 18, slot := 6, constantValue := 0 }, { name := "$VALUES", type := (.array (.object "com/example/tallybook/tallybook/camt/StatementKind")), accessFlags := 4122, slot := 2, constantValue := 0 }]
  methods := #[k6m0, k6m1]
  instanceTypes := #[(.object "java/lang/String"), .int, .int, (.object "java/lang/String"), (.object "java/lang/String"), (.object "java/lang/String"), (.object "java/lang/String")]
  staticTypes := #[(.object "com/example/tallybook/tallybook/camt/StatementKind"), (.object "com/example/tallybook/tallybook/camt/StatementKind"), (.array (.object "com/example/tallybook/tallybook/camt/StatementKind"))]
  resolved := Array.replicate 95 none
  statics := some 0 }

def pool7 : Array CpInfo := pool [(2, .class_ 4), (1, u "java/lang/CharSequence"), (42, .class_ 48), (0, u "java/lang/CharSequence$1CodePointIterator"), (10, .class_ 60), (0, u "java/lang/CharSequence$1CharIterator"), (5, .class_ 67), (0, u "java/lang/Object")] 63

/-- java/lang/CharSequence -/
def k7 : Class := { plain "java/lang/CharSequence" (some 0) with
  accessFlags := 1537
  interfaces := #[]
  cf := some (fileOf pool7 2 #[.nestMembers #[47, 59]] #[] 1537 66 #[] #[])
  fields := #[]
  methods := #[]
  instanceTypes := #[]
  staticTypes := #[]
  resolved := Array.replicate 131 none
  statics := none }

def pool8 : Array CpInfo := pool [(1, .class_ 2), (0, u "java/lang/constant/ConstantDesc"), (0, .class_ 4), (0, u "java/lang/Object")] 32

/-- java/lang/constant/ConstantDesc -/
def k8 : Class := { plain "java/lang/constant/ConstantDesc" (some 0) with
  accessFlags := 1537
  interfaces := #[]
  cf := some (fileOf pool8 1 #[] #[] 1537 3 #[] #[])
  fields := #[]
  methods := #[]
  instanceTypes := #[]
  staticTypes := #[]
  resolved := Array.replicate 37 none
  statics := none }

def pool9 : Array CpInfo := pool [(2, .class_ 4), (1, u "java/lang/Object"), (0, u "<init>"), (0, u "()V"), (2, .fieldref 10 11), (0, .class_ 12), (0, .nameAndType 13 14), (0, u "java/lang/String"), (0, u "value"), (0, u "[B"), (0, .fieldref 10 16), (0, .nameAndType 17 18), (0, u "coder"), (0, u "B"), (2, u "hash"), (0, u "I"), (2, u "hashIsZero"), (0, u "Z"), (11, .fieldref 10 39), (0, .nameAndType 40 26), (0, u "COMPACT_STRINGS"), (66, .class_ 109), (1, u "java/lang/StringLatin1"), (431, .methodref 107 542), (0, .nameAndType 543 544), (0, u "equals"), (0, u "([B[B)Z"), (28, u "(Ljava/lang/Object;)Z"), (1, .class_ 576), (0, u "java/lang/CharSequence"), (22, u "CASE_INSENSITIVE_ORDER"), (0, u "Ljava/util/Comparator;"), (500, u "serialPersistentFields"), (0, u "[Ljava/io/ObjectStreamField;"), (0, .class_ 1104), (0, u "java/lang/String$CaseInsensitiveComparator"), (1, .class_ 1107), (0, u "java/io/Serializable"), (0, .class_ 1109), (0, u "java/lang/Comparable"), (0, .class_ 1111), (0, u "java/lang/constant/Constable"), (0, .class_ 1113), (0, u "java/lang/constant/ConstantDesc"), (2, u "serialVersionUID"), (0, u "J"), (3, u "REPL"), (0, u "C"), (2, u "LATIN1"), (1, u "UTF16")] 323

def k9m0 : Method := { name := "<init>", desc := "()V", sig := { parameters := [], returnType := none }, accessFlags := 1, code := none }
def k9c1 : Code := { maxStack := 2, maxLocals := 3, code := jdk_42_method_66_code, exceptionTable := #[], attributes := #[] }
def k9m1 : Method := { name := "equals", desc := "(Ljava/lang/Object;)Z", sig := { parameters := [(.object "java/lang/Object")], returnType := some .boolean }, accessFlags := 1, code := some k9c1 }
/-- java/lang/String -/
def k9 : Class := { plain "java/lang/String" (some 0) with
  accessFlags := 49
  interfaces := #[4, 3, 7, 2, 8]
  cf := some (fileOf pool9 10 #[.nestMembers #[1103]] #[{ accessFlags := 1, nameIndex := 5, descriptorIndex := 6, attributes := #[] }, { accessFlags := 1, nameIndex := 543, descriptorIndex := 573, attributes := #[] }] 49 2 #[1106, 1108, 575, 1110, 1112] #[{ accessFlags := 18, nameIndex := 13, descriptorIndex := 14, attributes := #[] }, { accessFlags := 18, nameIndex := 17, descriptorIndex := 18, attributes := #[] }, { accessFlags := 2, nameIndex := 21, descriptorIndex := 22, attributes := #[] }, { accessFlags := 2, nameIndex := 25, descriptorIndex := 26, attributes := #[] }, { accessFlags := 26, nameIndex := 1116, descriptorIndex := 1117, attributes := #[] }, { accessFlags := 24, nameIndex := 40, descriptorIndex := 26, attributes := #[] }, { accessFlags := 26, nameIndex := 1101, descriptorIndex := 1102, attributes := #[] }, { accessFlags := 26, nameIndex := 1121, descriptorIndex := 1122, attributes := #[] }, { accessFlags := 25, nameIndex := 599, descriptorIndex := 600, attributes := #[] }, { accessFlags := 24, nameIndex := 1125, descriptorIndex := 18, attributes := #[] }, { accessFlags := 24, nameIndex := 1127, descriptorIndex := 18, attributes := #[] }])
  fields := #[{ name := "value", type := (.array .byte), accessFlags := 18, slot := 0, constantValue := 0 }, { name := "coder", type := .byte, accessFlags := 18, slot := 1, constantValue := 0 }, { name := "hash", type := .int, accessFlags := 2, slot := 2, constantValue := 0 }, { name := "hashIsZero", type := .boolean, accessFlags := 2, slot := 3, constantValue := 0 }, { name := "serialVersionUID", type := .long, accessFlags := 26, slot := 0, constantValue := 0 }, { name := "COMPACT_STRINGS", type := .boolean, accessFlags := 24, slot := 1, constantValue := 0 }, { name := "serialPersistentFields", type := (.array (.object "java/io/ObjectStreamField")), accessFlags := 26, slot := 2, constantValue := 0 }, { name := "REPL", type := .char, accessFlags := 26, slot := 3, constantValue := 0 }, { name := "CASE_INSENSITIVE_ORDER", type := (.object "java/util/Comparator"), accessFlags := 25, slot := 4, constantValue := 0 }, { name := "LATIN1", type := .byte, accessFlags := 24, slot := 5, constantValue := 0 }, { name := "UTF16", type := .byte, accessFlags := 24, slot := 6, constantValue := 0 }]
  methods := #[k9m0, k9m1]
  instanceTypes := #[(.array .byte), .byte, .int, .boolean]
  staticTypes := #[.long, .boolean, (.array (.object "java/io/ObjectStreamField")), .char, (.object "java/util/Comparator"), .byte, .byte]
  resolved := Array.replicate 1451 none
  statics := some 1 }

def pool10 : Array CpInfo := pool [(4, .class_ 6), (1, u "java/lang/Object"), (0, u "<init>"), (0, u "()V"), (5, .class_ 16), (1, u "java/lang/StringLatin1"), (104, u "$assertionsDisabled"), (0, u "Z"), (98, .class_ 223), (1, u "java/lang/StringLatin1$LinesSpliterator"), (57, u "equals"), (0, u "([B[B)Z"), (107, .class_ 391), (0, u "java/lang/StringLatin1$CharsSpliterator")] 3

def k10m0 : Method := { name := "<init>", desc := "()V", sig := { parameters := [], returnType := none }, accessFlags := 0, code := none }
def k10c1 : Code := { maxStack := 3, maxLocals := 3, code := jdk_43_method_13_code, exceptionTable := #[], attributes := #[] }
def k10m1 : Method := { name := "equals", desc := "([B[B)Z", sig := { parameters := [(.array .byte), (.array .byte)], returnType := some .boolean }, accessFlags := 9, code := some k10c1 }
/-- java/lang/StringLatin1 -/
def k10 : Class := { plain "java/lang/StringLatin1" (some 0) with
  accessFlags := 48
  interfaces := #[]
  cf := some (fileOf pool10 14 #[.nestMembers #[390, 221]] #[{ accessFlags := 0, nameIndex := 7, descriptorIndex := 8, attributes := #[] }, { accessFlags := 9, nameIndex := 281, descriptorIndex := 282, attributes := #[] }] 48 4 #[] #[{ accessFlags := 4120, nameIndex := 121, descriptorIndex := 122, attributes := #[] }])
  fields := #[{ name := "$assertionsDisabled", type := .boolean, accessFlags := 4120, slot := 0, constantValue := 0 }]
  methods := #[k10m0, k10m1]
  instanceTypes := #[]
  staticTypes := #[.boolean]
  resolved := Array.replicate 395 none
  statics := none }

def pool11 : Array CpInfo := pool [(2, .class_ 4), (1, u "java/lang/Object"), (0, u "<init>"), (0, u "()V"), (17, .class_ 26), (1, u "jdk/internal/util/Preconditions"), (28, .class_ 56), (0, u "jdk/internal/util/Preconditions$4"), (57, .class_ 115), (0, u "jdk/internal/util/Preconditions$1"), (7, u "SIOOBE_FORMATTER"), (0, u "Ljava/util/function/BiFunction;"), (0, .class_ 126), (0, u "jdk/internal/util/Preconditions$2"), (3, u "AIOOBE_FORMATTER"), (0, .class_ 132), (0, u "jdk/internal/util/Preconditions$3"), (3, u "IOOBE_FORMATTER")] 57

def k11m0 : Method := { name := "<init>", desc := "()V", sig := { parameters := [], returnType := none }, accessFlags := 1, code := none }
/-- jdk/internal/util/Preconditions -/
def k11 : Class := { plain "jdk/internal/util/Preconditions" (some 0) with
  accessFlags := 33
  interfaces := #[]
  cf := some (fileOf pool11 24 #[.nestMembers #[55, 131, 125, 114]] #[{ accessFlags := 1, nameIndex := 5, descriptorIndex := 6, attributes := #[] }] 33 2 #[] #[{ accessFlags := 25, nameIndex := 123, descriptorIndex := 124, attributes := #[] }, { accessFlags := 25, nameIndex := 130, descriptorIndex := 124, attributes := #[] }, { accessFlags := 25, nameIndex := 136, descriptorIndex := 124, attributes := #[] }])
  fields := #[{ name := "SIOOBE_FORMATTER", type := (.object "java/util/function/BiFunction"), accessFlags := 25, slot := 0, constantValue := 0 }, { name := "AIOOBE_FORMATTER", type := (.object "java/util/function/BiFunction"), accessFlags := 25, slot := 1, constantValue := 0 }, { name := "IOOBE_FORMATTER", type := (.object "java/util/function/BiFunction"), accessFlags := 25, slot := 2, constantValue := 0 }]
  methods := #[k11m0]
  instanceTypes := #[]
  staticTypes := #[(.object "java/util/function/BiFunction"), (.object "java/util/function/BiFunction"), (.object "java/util/function/BiFunction")]
  resolved := Array.replicate 194 none
  statics := some 2 }

def pool12 : Array CpInfo := pool [(9, u "<init>"), (6, .class_ 18), (1, u "java/lang/Object"), (0, u "()V"), (1, .class_ 23), (1, u "jdk/internal/util/ArraysSupport"), (0, u "LOG2_ARRAY_LONG_INDEX_SCALE"), (0, u "I"), (2, u "U"), (0, u "Ljdk/internal/misc/Unsafe;"), (8, u "BIG_ENDIAN"), (0, u "Z"), (8, u "LOG2_BYTE_BIT_SIZE"), (4, u "LOG2_ARRAY_INT_INDEX_SCALE"), (54, u "JLA"), (0, u "Ljdk/internal/access/JavaLangAccess;"), (11, u "LOG2_ARRAY_BOOLEAN_INDEX_SCALE"), (9, u "LOG2_ARRAY_BYTE_INDEX_SCALE"), (5, u "LOG2_ARRAY_CHAR_INDEX_SCALE"), (5, u "LOG2_ARRAY_SHORT_INDEX_SCALE"), (18, u "LOG2_ARRAY_FLOAT_INDEX_SCALE"), (24, u "LOG2_ARRAY_DOUBLE_INDEX_SCALE"), (89, u "T_BOOLEAN"), (2, u "T_CHAR"), (1, u "T_FLOAT"), (1, u "T_DOUBLE"), (1, u "T_BYTE"), (1, u "T_SHORT"), (1, u "T_INT"), (1, u "T_LONG"), (1, u "SOFT_MAX_ARRAY_LENGTH")] 83

def k12m0 : Method := { name := "<init>", desc := "()V", sig := { parameters := [], returnType := none }, accessFlags := 2, code := none }
/-- jdk/internal/util/ArraysSupport -/
def k12 : Class := { plain "jdk/internal/util/ArraysSupport" (some 0) with
  accessFlags := 33
  interfaces := #[]
  cf := some (fileOf pool12 21 #[] #[{ accessFlags := 2, nameIndex := 9, descriptorIndex := 19, attributes := #[] }] 33 16 #[] #[{ accessFlags := 24, nameIndex := 28, descriptorIndex := 29, attributes := #[] }, { accessFlags := 26, nameIndex := 38, descriptorIndex := 39, attributes := #[] }, { accessFlags := 25, nameIndex := 121, descriptorIndex := 25, attributes := #[] }, { accessFlags := 25, nameIndex := 131, descriptorIndex := 25, attributes := #[] }, { accessFlags := 25, nameIndex := 137, descriptorIndex := 25, attributes := #[] }, { accessFlags := 25, nameIndex := 143, descriptorIndex := 25, attributes := #[] }, { accessFlags := 25, nameIndex := 53, descriptorIndex := 25, attributes := #[] }, { accessFlags := 25, nameIndex := 24, descriptorIndex := 25, attributes := #[] }, { accessFlags := 25, nameIndex := 162, descriptorIndex := 25, attributes := #[] }, { accessFlags := 25, nameIndex := 187, descriptorIndex := 25, attributes := #[] }, { accessFlags := 26, nameIndex := 48, descriptorIndex := 25, attributes := #[] }, { accessFlags := 25, nameIndex := 277, descriptorIndex := 25, attributes := #[] }, { accessFlags := 25, nameIndex := 280, descriptorIndex := 25, attributes := #[] }, { accessFlags := 25, nameIndex := 282, descriptorIndex := 25, attributes := #[] }, { accessFlags := 25, nameIndex := 284, descriptorIndex := 25, attributes := #[] }, { accessFlags := 25, nameIndex := 286, descriptorIndex := 25, attributes := #[] }, { accessFlags := 25, nameIndex := 288, descriptorIndex := 25, attributes := #[] }, { accessFlags := 25, nameIndex := 290, descriptorIndex := 25, attributes := #[] }, { accessFlags := 25, nameIndex := 292, descriptorIndex := 25, attributes := #[] }, { accessFlags := 26, nameIndex := 108, descriptorIndex := 109, attributes := #[] }, { accessFlags := 25, nameIndex := 294, descriptorIndex := 25, attributes := #[] }])
  fields := #[{ name := "U", type := (.object "jdk/internal/misc/Unsafe"), accessFlags := 24, slot := 0, constantValue := 0 }, { name := "BIG_ENDIAN", type := .boolean, accessFlags := 26, slot := 1, constantValue := 0 }, { name := "LOG2_ARRAY_BOOLEAN_INDEX_SCALE", type := .int, accessFlags := 25, slot := 2, constantValue := 0 }, { name := "LOG2_ARRAY_BYTE_INDEX_SCALE", type := .int, accessFlags := 25, slot := 3, constantValue := 0 }, { name := "LOG2_ARRAY_CHAR_INDEX_SCALE", type := .int, accessFlags := 25, slot := 4, constantValue := 0 }, { name := "LOG2_ARRAY_SHORT_INDEX_SCALE", type := .int, accessFlags := 25, slot := 5, constantValue := 0 }, { name := "LOG2_ARRAY_INT_INDEX_SCALE", type := .int, accessFlags := 25, slot := 6, constantValue := 0 }, { name := "LOG2_ARRAY_LONG_INDEX_SCALE", type := .int, accessFlags := 25, slot := 7, constantValue := 0 }, { name := "LOG2_ARRAY_FLOAT_INDEX_SCALE", type := .int, accessFlags := 25, slot := 8, constantValue := 0 }, { name := "LOG2_ARRAY_DOUBLE_INDEX_SCALE", type := .int, accessFlags := 25, slot := 9, constantValue := 0 }, { name := "LOG2_BYTE_BIT_SIZE", type := .int, accessFlags := 26, slot := 10, constantValue := 0 }, { name := "T_BOOLEAN", type := .int, accessFlags := 25, slot := 11, constantValue := 0 }, { name := "T_CHAR", type := .int, accessFlags := 25, slot := 12, constantValue := 0 }, { name := "T_FLOAT", type := .int, accessFlags := 25, slot := 13, constantValue := 0 }, { name := "T_DOUBLE", type := .int, accessFlags := 25, slot := 14, constantValue := 0 }, { name := "T_BYTE", type := .int, accessFlags := 25, slot := 15, constantValue := 0 }, { name := "T_SHORT", type := .int, accessFlags := 25, slot := 16, constantValue := 0 }, { name := "T_INT", type := .int, accessFlags := 25, slot := 17, constantValue := 0 }, { name := "T_LONG", type := .int, accessFlags := 25, slot := 18, constantValue := 0 }, { name := "JLA", type := (.object "jdk/internal/access/JavaLangAccess"), accessFlags := 26, slot := 19, constantValue := 0 }, { name := "SOFT_MAX_ARRAY_LENGTH", type := .int, accessFlags := 25, slot := 20, constantValue := 0 }]
  methods := #[k12m0]
  instanceTypes := #[]
  staticTypes := #[(.object "jdk/internal/misc/Unsafe"), .boolean, .int, .int, .int, .int, .int, .int, .int, .int, .int, .int, .int, .int, .int, .int, .int, .int, .int, (.object "jdk/internal/access/JavaLangAccess"), .int]
  resolved := Array.replicate 378 none
  statics := none }

def pool13 : Array CpInfo := pool [(1, u "java/lang/Cloneable"), (0, .class_ 1), (0, u "java/lang/Object"), (0, .class_ 3)] 3

/-- java/lang/Cloneable -/
def k13 : Class := { plain "java/lang/Cloneable" (some 0) with
  accessFlags := 1537
  interfaces := #[]
  cf := some (fileOf pool13 2 #[] #[] 1537 4 #[] #[])
  fields := #[]
  methods := #[]
  instanceTypes := #[]
  staticTypes := #[]
  resolved := Array.replicate 8 none
  statics := none }

/-- the primitive byte -/
def k14 : Class := { plain "byte" none with kind := .primitive 'B', accessFlags := 0x411 }
/-- [B -/
def k15 : Class := { plain "[B" (some 0) with kind := .array 14 .byte, interfaces := #[13, 4], accessFlags := 1041 }

/-- the primitive int -/
def k16 : Class := { plain "int" none with kind := .primitive 'I', accessFlags := 0x411 }
/-- [I -/
def k17 : Class := { plain "[I" (some 0) with kind := .array 16 .int, interfaces := #[13, 4], accessFlags := 1041 }

def heap : Heap := #[{ cls := 6, slots := #[.ref 7, .ref 8, .null], vm := .statics 6 },
  { cls := 9, slots := #[.long 0, .int 1, .null, .int 0, .null, .int 0, .int 0], vm := .statics 9 },
  { cls := 11, slots := #[.null, .null, .null], vm := .statics 11 },
  { cls := 15, slots := #[.int 115, .int 116, .int 97, .int 116, .int 101, .int 109, .int 101, .int 110, .int 116], vm := .none },
  { cls := 15, slots := #[.int 114, .int 101, .int 112, .int 111, .int 114, .int 116], vm := .none },
  { cls := 9, slots := #[.ref 3, .int 0, .int 0, .int 0], vm := .none },
  { cls := 9, slots := #[.ref 4, .int 0, .int 0, .int 0], vm := .none },
  { cls := 6, slots := #[.null, .int 0, .int 0, .ref 5, .null, .null, .null], vm := .none },
  { cls := 6, slots := #[.null, .int 1, .int 0, .ref 6, .null, .null, .null], vm := .none }]
def classes : Array Class := #[k0, k1, k2, k3, k4, k5, k6, k7, k8, k9, k10, k11, k12, k13, k14, k15, k16, k17]
def interned : List (Array UInt16 × Addr) := []
def slotsUsed : Nat := 50
def theMethod : MethodId := ⟨1, 1⟩
def args0 : Array Value := #[.int 5]
def aboutOver (below : List Frame) : State where
  vm := { classes := classes, interned := interned.toArray }
  heap := heap
  slotsUsed := slotsUsed
  threads := #[{ frames := .invoking theMethod args0 :: below }]
def below0 : List Frame := [.native { method := ⟨0, 0⟩, args := #[] }]
def about1 : State := aboutOver below0
def p0 : Program := .bare "" "" ""
def e0 : Env := launch0.env 0 0 0
theorem w_frames : about1.frames = Frame.invoking theMethod args0 :: below0 := rfl
set_option maxRecDepth 65536 in
theorem w_args : argsFit about1.vm theMethod args0 = true := by decide +kernel
set_option maxRecDepth 65536 in
theorem w_heap : heapFits about1 = true := by decide +kernel
set_option maxRecDepth 65536 in
theorem w_runnable : about1.curStatus? = some .runnable := by decide +kernel
set_option maxRecDepth 65536 in
theorem w_alone : about1.alone = true := by decide +kernel
set_option maxRecDepth 65536 in
theorem w_named : about1.methodNamed? x = some theMethod := by decide +kernel
set_option maxRecDepth 65536 in
theorem w_hears : about1.hears theMethod below0 = true := by decide +kernel
set_option maxRecDepth 65536 in
theorem w_ripe : about1.ripe theMethod args0 below0 = true := by decide +kernel
theorem w_running : about1.status = .running := rfl
set_option maxRecDepth 65536 in
theorem w_room : about1.hasRoom e0.platform room_1 = true :=
  launch0.hasRoom_least _ room_1 (by decide +kernel) (by decide +kernel) (by decide +kernel) (by decide +kernel) (by decide +kernel) (by decide +kernel)
theorem allAtoms_all (ts : List Jvm.Cond) (a : Array Jvm.Value) (st : Jvm.State) : (allAtoms ts).before a st = ts.all (fun c => c.before a st) := by
  induction ts with
  | nil => rfl
  | cons c t ih =>
    show (Jvm.Cond.and c (allAtoms t)).before a st = _
    rw [Jvm.Cond.before_and, ih, List.all_cons]
def words1 : List Jvm.Cond := Jvm.Cond.code x code maxLocals ret :: tables_1
/-- a 'code' word, met by the world's own term for the bytes: nothing is compared byte by byte -/
theorem code_word {y : MethodName} {bytes : ByteArray} {mx : Nat} {rt : Option FieldType} {a : Array Value} {s : State} {m : MethodId} {meth : Method} {c : Code} (h1 : s.methodNamed? y = some m) (h2 : s.vm.method? m = some meth) (h3 : meth.code = some c) (h4 : c.code = bytes)
    (h5 : (c.maxLocals == mx && c.exceptionTable.isEmpty && decide (c.maxStack ≤ mostOperands) && decide (meth.sig.returnType = rt) && !meth.locks && decide (parseMethodDescriptor y.desc = some meth.sig)) = true) : (Jvm.Cond.code y bytes mx rt).before a s = true := by
  simp only [Bool.and_eq_true, beq_iff_eq, Bool.not_eq_true', decide_eq_true_eq] at h5
  obtain ⟨⟨⟨⟨⟨g1, g2⟩, g3⟩, g4⟩, g5⟩, g6⟩ := h5
  simp [Cond.before, Cond.holds, Cond.value, h1, h2, h3, h4, g1, g2, g3, g4, g5, g6]
def isCode : Jvm.Cond → Bool
  | .code _ _ _ _ => true
  | _ => false
theorem all_split {L : List Jvm.Cond} {P : Jvm.Cond → Bool} (h1 : L.all (fun c => isCode c || P c) = true) (h2 : ∀ c ∈ L.filter isCode, P c = true) : L.all P = true := by
  refine List.all_eq_true.mpr fun c hc => ?_
  have h := List.all_eq_true.mp h1 c hc
  rcases Bool.eq_false_or_eq_true (isCode c) with hi | hi
  · exact h2 c (List.mem_filter.mpr ⟨hc, hi⟩)
  · simpa [hi] using h
set_option maxRecDepth 65536 in
theorem w_c0 : (Jvm.Cond.code x code maxLocals ret).before args0 about1 = true := code_word (m := ⟨1, 1⟩) (meth := k1m1) (c := k1c1) (by decide +kernel) rfl rfl rfl (by decide +kernel)
set_option maxRecDepth 65536 in
theorem w_c1 : (Jvm.Cond.code ({ cls := "com/example/tallybook/tallybook/camt/StatementKind", name := "label", desc := "()Ljava/lang/String;" } : Jvm.MethodName) prog_36_method_4_code (1 : Nat) (Option.some (Jvm.ClassFile.FieldType.object "java/lang/String"))).before args0 about1 = true := code_word (m := ⟨6, 0⟩) (meth := k6m0) (c := k6c0) (by decide +kernel) rfl rfl rfl (by decide +kernel)
set_option maxRecDepth 65536 in
theorem w_c2 : (Jvm.Cond.code ({ cls := "java/lang/String", name := "equals", desc := "(Ljava/lang/Object;)Z" } : Jvm.MethodName) jdk_42_method_66_code (3 : Nat) (Option.some Jvm.ClassFile.FieldType.boolean)).before args0 about1 = true := code_word (m := ⟨9, 1⟩) (meth := k9m1) (c := k9c1) (by decide +kernel) rfl rfl rfl (by decide +kernel)
set_option maxRecDepth 65536 in
theorem w_c3 : (Jvm.Cond.code ({ cls := "java/lang/StringLatin1", name := "equals", desc := "([B[B)Z" } : Jvm.MethodName) jdk_43_method_13_code (3 : Nat) (Option.some Jvm.ClassFile.FieldType.boolean)).before args0 about1 = true := code_word (m := ⟨10, 1⟩) (meth := k10m1) (c := k10c1) (by decide +kernel) rfl rfl rfl (by decide +kernel)
set_option maxRecDepth 65536 in
theorem w_c4 : (Jvm.Cond.code ({ cls := "com/example/tallybook/tallybook/camt/StatementKind", name := "mayGiveInformationBalanceAlone", desc := "()Z" } : Jvm.MethodName) prog_36_method_10_code (1 : Nat) (Option.some Jvm.ClassFile.FieldType.boolean)).before args0 about1 = true := code_word (m := ⟨6, 1⟩) (meth := k6m1) (c := k6c1) (by decide +kernel) rfl rfl rfl (by decide +kernel)
def codes1 : List Jvm.Cond := [Jvm.Cond.code x code maxLocals ret, Jvm.Cond.code ({ cls := "com/example/tallybook/tallybook/camt/StatementKind", name := "label", desc := "()Ljava/lang/String;" } : Jvm.MethodName) prog_36_method_4_code (1 : Nat) (Option.some (Jvm.ClassFile.FieldType.object "java/lang/String")), Jvm.Cond.code ({ cls := "java/lang/String", name := "equals", desc := "(Ljava/lang/Object;)Z" } : Jvm.MethodName) jdk_42_method_66_code (3 : Nat) (Option.some Jvm.ClassFile.FieldType.boolean), Jvm.Cond.code ({ cls := "java/lang/StringLatin1", name := "equals", desc := "([B[B)Z" } : Jvm.MethodName) jdk_43_method_13_code (3 : Nat) (Option.some Jvm.ClassFile.FieldType.boolean), Jvm.Cond.code ({ cls := "com/example/tallybook/tallybook/camt/StatementKind", name := "mayGiveInformationBalanceAlone", desc := "()Z" } : Jvm.MethodName) prog_36_method_10_code (1 : Nat) (Option.some Jvm.ClassFile.FieldType.boolean)]
set_option maxRecDepth 65536 in
theorem codes_eq : words1.filter isCode = codes1 := rfl
theorem w_codes : ∀ c ∈ words1.filter isCode, c.before args0 about1 = true := by
  rw [codes_eq]
  intro c hc
  simp only [codes1, List.mem_cons, List.not_mem_nil, or_false] at hc
  rcases hc with rfl | rfl | rfl | rfl | rfl
  · exact w_c0
  · exact w_c1
  · exact w_c2
  · exact w_c3
  · exact w_c4
set_option maxRecDepth 65536 in
theorem w_t1 : (words1.take 24).all (fun c => isCode c || c.before args0 about1) = true := by decide +kernel
set_option maxRecDepth 65536 in
theorem w_t2 : (words1.drop 24).all (fun c => isCode c || c.before args0 about1) = true := by decide +kernel
theorem w_tables : (allAtoms (Jvm.Cond.code x code maxLocals ret :: tables_1)).before args0 about1 = true := by
  rw [allAtoms_all]
  show words1.all (fun c => c.before args0 about1) = true
  refine all_split ?_ w_codes
  rw [← List.take_append_drop 24 words1, List.all_append, w_t1, w_t2]
  rfl
set_option maxRecDepth 65536 in
theorem w_rest : rest_1_c.before args0 about1 = true := by decide +kernel
set_option maxRecDepth 65536 in
theorem w_case : (Jvm.Cond.and given_1 narrow_1).before args0 about1 = true := by decide +kernel
set_option maxRecDepth 65536 in
theorem w_consts : constsHeld consts_1 about1 := Jvm.Lit.constsHeldB_iff.mp (by decide +kernel)
theorem w_applies : (headSpec (Jvm.Cond.code x code maxLocals ret :: tables_1) room_1).applies x e0.platform about1 = true :=
  (Spec.applies_iff w_frames).mpr ⟨w_running, w_runnable, w_alone, w_named, w_hears, w_ripe, w_room, w_tables⟩
theorem atStart : AtStart classFile x code maxLocals ret World_1 tables_1 room_1 Calls_1 rest_1 Pre_1 launch0 p0 e0 about1 theMethod args0 below0 :=
  ⟨lists_1, trivial, launch0.admits_env _ _ _, launch0.least_env, fairChoices_fair.cas, fairChoices_fair.clock, w_frames, w_args, w_heap, w_applies, ⟨w_consts, trivial⟩, w_rest, w_case⟩
end start1
theorem witness_1 : WitnessClaimed_1 := ⟨start1.p0, start1.e0, start1.about1, start1.theMethod, start1.args0, start1.below0, start1.atStart⟩
end Jvm.Pilot.@@N@@
