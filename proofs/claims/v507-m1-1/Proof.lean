import JvmDerived
import JvmDerived.Pilot.@@N@@Statement
import JvmDerived.Pilot.@@N@@Code
set_option linter.unusedVariables false
set_option linter.unusedSimpArgs false
namespace Jvm.Own
open Sem ClassFile Op Lib Jvm.Stand Jvm.Free Jvm.LawKit Jvm.RoadKit
/-! THE OWN LAYER: a walk as a predicate on (heap, cells spent, slots spent, pc, locals, stack); each step is one rule 'what follows holds there -> what is asked holds here'. -/
abbrev Wk := Heap → Nat → Nat → Nat → Array Slot → List Value → Prop
def Ends (Z s : State) (R : Room) (Q : Option Value → Heap → Prop) (o : Outcome) (u : State) : Prop :=
  ∃ v L, o = .returned v ∧ (Q v u.heap ∧ Ext Z.heap u.heap ∧ Fr Z.heap.size L) ∧ FrameEnd s o u L R.cells R.slots
def Run (p : Program) (l : Launch) (e : Env) (R : Room) (s : State) (m : MethodId) (args : Array Value) (below : List Frame) (meth : Method) (c : Code) (Z : State) (Q : Option Value → Heap → Prop) : Wk := fun h k n pc Ls st =>
  Ext Z.heap h → ∀ T locs, Stand p l e R s m args below meth c T locs k n → T.heap = h → Fr Z.heap.size locs →
    ∃ u o, Steps p.tables e below (T.setTop (mkF m pc Ls st)) u ∧ u.status = .running ∧ Ended u below o ∧ Ends Z s R Q o u
def Ok (p : Program) (s : State) (m : MethodId) (meth : Method) (c : Code) (Z : State) (a0 : Array Value) (tb : List Jvm.Cond) (own : String) (code : ByteArray) (ml : Nat) (rt : Option FieldType) (nm : String) : Prop :=
  p.tables.exec = Jvm.exec ∧ c.code = code ∧ c.maxLocals = ml ∧ s.vm.findClass own = some m.cls ∧ meth.sig.returnType = rt ∧ meth.locks = false ∧ Z.Warmed39 s.vm ∧ meth.name = nm ∧ (∀ d ∈ tb, d.before a0 Z = true)
def Walk (W : Wk) (l : Launch) (Z : State) (a0 : Array Value) (tb : List Jvm.Cond) (own : String) (code : ByteArray) (ml : Nat) (rt : Option FieldType) (nm : String) (R : Room) (Q : Option Value → Heap → Prop) : Prop :=
  ∃ p e s m args below meth c, W = Run p l e R s m args below meth c Z Q ∧ Ok p s m meth c Z a0 tb own code ml rt nm
/-- what a method does, called on these arguments over this heap -/
def Con (l : Launch) (Z : State) (y : MethodName) (code : ByteArray) (ml : Nat) (rt : Option FieldType) (rm : Room) (as : Array Value) (h : Heap) (Q : Option Value → Heap → Prop) : Prop :=
  Ext Z.heap h → ∀ ws, MetFree l y (head1 (Jvm.Cond.code y code ml rt :: ws) rm) (fun a U => a = as ∧ Z.Warmed39 U.vm ∧ U.heap = h) (fun _ _ _ _ _ => True) (fun _ U o U' => Ends Z U rm Q o U')
/-- it returns v and the heap stands as it was -/
def Same (v : Option Value) (h : Heap) : Option Value → Heap → Prop := fun v' h' => v' = v ∧ h' = h
theorem same_intro {v : Option Value} {h : Heap} {P : Option Value → Heap → Prop} (K : P v h) : ∀ v' h', Same v h v' h' → P v' h' := by
  rintro _ _ ⟨rfl, rfl⟩; exact K
theorem Con.of {l : Launch} {Z : State} {a0 : Array Value} {tb : List Jvm.Cond} {y : MethodName} {code : ByteArray} {ml : Nat} {rt : Option FieldType} {rm : Room} {as : Array Value} {h : Heap} {Q : Option Value → Heap → Prop} {Ls : Array Slot}
    (hw : ∀ d ∈ tb, d.before a0 Z = true) (hpn : plainFor y = true) (hef : ∀ m, entryFrame m as ml = mkF m 0 Ls []) (H : ∀ W : Wk, Walk W l Z a0 tb y.cls code ml rt y.name rm Q → W h 0 0 0 Ls []) : Con l Z y code ml rt rm as h Q := by
  intro hE ws
  refine MetFree.of_bodySF hpn hisR ?_
  intro p e s m args below meth c s₁ Bd hml0 hP hK
  obtain ⟨rfl, hZ, hh⟩ := hP
  have X0 : Stand p l e rm s m args below meth c s₁ [] 0 0 := Stand.of_body Bd
  have e0 : s₁.heap = h := by rw [← hh, Bd.state]; rfl
  obtain ⟨u, o, h1, h2, h3, h4⟩ := H _ ⟨p, e, s, m, args, below, meth, c, rfl, Bd.exec, Bd.bytes, hml0, findClass_of_methodNamed Bd.named, Bd.returns, BodyLoose.notSynchronized Bd, hZ, (name_of_methodNamed Bd.named Bd.method).1, hw⟩ hE s₁ [] X0 e0 (Fr.nil _)
  exact ⟨u, o, castTop (hef m) h1, h2, h3, h4⟩
section Rules
variable {W : Wk} {l : Launch} {Z : State} {a0 : Array Value} {tb : List Jvm.Cond} {own : String} {code : ByteArray} {ml : Nat} {rt : Option FieldType} {nm : String} {R : Room} {Q : Option Value → Heap → Prop} {h : Heap} {k n pc : Nat} {Ls : Array Slot} {st : List Value}
theorem Walk.word (C : Walk W l Z a0 tb own code ml rt nm R Q) {d : Jvm.Cond} (q : d ∈ tb) : d.before a0 Z = true := by
  obtain ⟨p, e, s, m, args, below, meth, c, rfl, ok⟩ := C
  exact ok.2.2.2.2.2.2.2.2 d q
theorem Walk.more (C : Walk W l Z a0 tb own code ml rt nm R Q) {k' n' : Nat} (hk : k ≤ k') (hn : n ≤ n') (K : W h k' n' pc Ls st) : W h k n pc Ls st := by
  obtain ⟨p, e, s, m, args, below, meth, c, rfl, ok⟩ := C
  exact fun hE T locs X eT N => K hE T locs (X.more hk hn) eT N
theorem Walk.kept (C : Walk W l Z a0 tb own code ml rt nm R Q) (K : Ext Z.heap h → W h k n pc Ls st) : W h k n pc Ls st := by
  obtain ⟨p, e, s, m, args, below, meth, c, rfl, ok⟩ := C
  exact fun hE => K hE hE
/-- a step that moves neither heap nor tables -/
theorem Walk.plain (C : Walk W l Z a0 tb own code ml rt nm R Q) {pc' : Nat} {Ls' : Array Slot} {st' : List Value}
    (S : ∀ {tb' : Tables} [Ours tb'] {e : Env} {below : List Frame} {T target : State} {m : MethodId} {c : Code}, At T m c below → tb'.exec = Jvm.exec → c.code = code → Steps tb' e below (T.setTop (mkF m pc' Ls' st')) target → Steps tb' e below (T.setTop (mkF m pc Ls st)) target)
    (K : W h k n pc' Ls' st') : W h k n pc Ls st := by
  obtain ⟨p, e, s, m, args, below, meth, c, rfl, ok⟩ := C
  intro hE T locs X eT N
  obtain ⟨u, o, h1, h2⟩ := K hE T locs X eT N
  exact ⟨u, o, S X.here ok.1 ok.2.1 h1, h2⟩
theorem Walk.iloadN (C : Walk W l Z a0 tb own code ml rt nm R Q) (pc' : Nat) {i : Fin 4} {v : Int32} (hd : decode code pc = .ok (.iload_n i, 1)) (hp : pc' = pc + 1) (hl : Ls[i.val]? = some (.val (.int v))) (K : W h k n pc' Ls (.int v :: st)) : W h k n pc Ls st := by
  subst hp; exact C.plain (fun hA hx hb' hr => XS.iloadN hA hx rfl (hb hb' hd) hl hr) K
theorem Walk.iload (C : Walk W l Z a0 tb own code ml rt nm R Q) (pc' : Nat) {i : Nat} {v : Int32} (hd : decode code pc = .ok (.iload i, 2)) (hp : pc' = pc + 2) (hl : Ls[i]? = some (.val (.int v))) (K : W h k n pc' Ls (.int v :: st)) : W h k n pc Ls st := by
  subst hp; exact C.plain (fun hA hx hb' hr => XS.iload hA hx rfl (hb hb' hd) hl hr) K
theorem Walk.lloadN (C : Walk W l Z a0 tb own code ml rt nm R Q) (pc' : Nat) {i : Fin 4} {v : Int64} (hd : decode code pc = .ok (.lload_n i, 1)) (hp : pc' = pc + 1) (hl : Ls[i.val]? = some (.val (.long v))) (K : W h k n pc' Ls (.long v :: st)) : W h k n pc Ls st := by
  subst hp; exact C.plain (fun hA hx hb' hr => XT.lloadN hA hx rfl (hb hb' hd) hl hr) K
theorem Walk.lload (C : Walk W l Z a0 tb own code ml rt nm R Q) (pc' : Nat) {i : Nat} {v : Int64} (hd : decode code pc = .ok (.lload i, 2)) (hp : pc' = pc + 2) (hl : Ls[i]? = some (.val (.long v))) (K : W h k n pc' Ls (.long v :: st)) : W h k n pc Ls st := by
  subst hp; exact C.plain (fun hA hx hb' hr => XT.lload hA hx rfl (hb hb' hd) hl hr) K
theorem Walk.aloadN (C : Walk W l Z a0 tb own code ml rt nm R Q) (pc' : Nat) {i : Fin 4} {v : Value} (hd : decode code pc = .ok (.aload_n i, 1)) (hp : pc' = pc + 1) (hl : Ls[i.val]? = some (.val v)) (hv : v.isRef = true) (K : W h k n pc' Ls (v :: st)) : W h k n pc Ls st := by
  subst hp; exact C.plain (fun hA hx hb' hr => XS.aloadN hA hx rfl (hb hb' hd) hl hv hr) K
theorem Walk.aload (C : Walk W l Z a0 tb own code ml rt nm R Q) (pc' : Nat) {i : Nat} {v : Value} (hd : decode code pc = .ok (.aload i, 2)) (hp : pc' = pc + 2) (hl : Ls[i]? = some (.val v)) (hv : v.isRef = true) (K : W h k n pc' Ls (v :: st)) : W h k n pc Ls st := by
  subst hp; exact C.plain (fun hA hx hb' hr => XS.aload hA hx rfl (hb hb' hd) hl hv hr) K
theorem Walk.istoreN (C : Walk W l Z a0 tb own code ml rt nm R Q) (pc' : Nat) (Ls' : Array Slot) {i : Fin 4} {x : Int32} (hd : decode code pc = .ok (.istore_n i, 1)) (hp : pc' = pc + 1) (hl : storeLocals Ls i.val (.int x) = some Ls') (K : W h k n pc' Ls' st) : W h k n pc Ls (.int x :: st) := by
  subst hp; exact C.plain (fun hA hx hb' hr => XS.istoreN hA hx rfl (hb hb' hd) rfl hl hr) K
theorem Walk.istore (C : Walk W l Z a0 tb own code ml rt nm R Q) (pc' : Nat) (Ls' : Array Slot) {i : Nat} {x : Int32} (hd : decode code pc = .ok (.istore i, 2)) (hp : pc' = pc + 2) (hl : storeLocals Ls i (.int x) = some Ls') (K : W h k n pc' Ls' st) : W h k n pc Ls (.int x :: st) := by
  subst hp; exact C.plain (fun hA hx hb' hr => XS.istore hA hx rfl (hb hb' hd) rfl hl hr) K
theorem Walk.lstoreN (C : Walk W l Z a0 tb own code ml rt nm R Q) (pc' : Nat) (Ls' : Array Slot) {i : Fin 4} {x : Int64} (hd : decode code pc = .ok (.lstore_n i, 1)) (hp : pc' = pc + 1) (hl : storeLocals Ls i.val (.long x) = some Ls') (K : W h k n pc' Ls' st) : W h k n pc Ls (.long x :: st) := by
  subst hp; exact C.plain (fun hA hx hb' hr => XT.lstoreN hA hx rfl (hb hb' hd) rfl hl hr) K
theorem Walk.lstore (C : Walk W l Z a0 tb own code ml rt nm R Q) (pc' : Nat) (Ls' : Array Slot) {i : Nat} {x : Int64} (hd : decode code pc = .ok (.lstore i, 2)) (hp : pc' = pc + 2) (hl : storeLocals Ls i (.long x) = some Ls') (K : W h k n pc' Ls' st) : W h k n pc Ls (.long x :: st) := by
  subst hp; exact C.plain (fun hA hx hb' hr => XT.lstore hA hx rfl (hb hb' hd) rfl hl hr) K
theorem Walk.astoreN (C : Walk W l Z a0 tb own code ml rt nm R Q) (pc' : Nat) (Ls' : Array Slot) {i : Fin 4} {x : Value} (hd : decode code pc = .ok (.astore_n i, 1)) (hp : pc' = pc + 1) (hv : x.isRef = true) (hl : storeLocals Ls i.val x = some Ls') (K : W h k n pc' Ls' st) : W h k n pc Ls (x :: st) := by
  subst hp; exact C.plain (fun hA hx hb' hr => XS.astoreN hA hx rfl (hb hb' hd) rfl hv hl hr) K
theorem Walk.astore (C : Walk W l Z a0 tb own code ml rt nm R Q) (pc' : Nat) (Ls' : Array Slot) {i : Nat} {x : Value} (hd : decode code pc = .ok (.astore i, 2)) (hp : pc' = pc + 2) (hv : x.isRef = true) (hl : storeLocals Ls i x = some Ls') (K : W h k n pc' Ls' st) : W h k n pc Ls (x :: st) := by
  subst hp; exact C.plain (fun hA hx hb' hr => XS.astore hA hx rfl (hb hb' hd) rfl hv hl hr) K
theorem Walk.iconst (C : Walk W l Z a0 tb own code ml rt nm R Q) (pc' : Nat) (v : Int32) {i : Int} (hd : decode code pc = .ok (.iconst i, 1)) (hp : pc' = pc + 1) (hv : Int32.ofInt i = v) (K : W h k n pc' Ls (.int v :: st)) : W h k n pc Ls st := by
  subst hp hv; exact C.plain (fun hA hx hb' hr => XS.iconst hA hx rfl (hb hb' hd) hr) K
theorem Walk.bipush (C : Walk W l Z a0 tb own code ml rt nm R Q) (pc' : Nat) (v : Int32) {i : Int} (hd : decode code pc = .ok (.bipush i, 2)) (hp : pc' = pc + 2) (hv : (Int8.ofInt i).toInt32 = v) (K : W h k n pc' Ls (.int v :: st)) : W h k n pc Ls st := by
  subst hp hv; exact C.plain (fun hA hx hb' hr => XS.bipush hA hx rfl (hb hb' hd) hr) K
theorem Walk.sipush (C : Walk W l Z a0 tb own code ml rt nm R Q) (pc' : Nat) (v : Int32) {i : Int} (hd : decode code pc = .ok (.sipush i, 3)) (hp : pc' = pc + 3) (hv : (Int16.ofInt i).toInt32 = v) (K : W h k n pc' Ls (.int v :: st)) : W h k n pc Ls st := by
  subst hp hv; exact C.plain (fun hA hx hb' hr => XS.sipush hA hx rfl (hb hb' hd) hr) K
theorem Walk.lconst (C : Walk W l Z a0 tb own code ml rt nm R Q) (pc' : Nat) (v : Int64) {i : Fin 2} (hd : decode code pc = .ok (.lconst i, 1)) (hp : pc' = pc + 1) (hv : Int64.ofNat i = v) (K : W h k n pc' Ls (.long v :: st)) : W h k n pc Ls st := by
  subst hp hv; exact C.plain (fun hA hx hb' hr => XT.lconst hA hx rfl (hb hb' hd) hr) K
theorem Walk.aconstNull (C : Walk W l Z a0 tb own code ml rt nm R Q) (pc' : Nat) (hd : decode code pc = .ok (.aconst_null, 1)) (hp : pc' = pc + 1) (K : W h k n pc' Ls (.null :: st)) : W h k n pc Ls st := by
  subst hp; exact C.plain (fun hA hx hb' hr => XS.aconstNull hA hx rfl (hb hb' hd) hr) K
theorem Walk.iadd (C : Walk W l Z a0 tb own code ml rt nm R Q) (pc' : Nat) {x y : Int32} (hd : decode code pc = .ok (.iadd, 1)) (hp : pc' = pc + 1) (K : W h k n pc' Ls (.int (x + y) :: st)) : W h k n pc Ls (.int y :: .int x :: st) := by
  subst hp; exact C.plain (fun hA hx hb' hr => XS.iadd hA hx rfl (hb hb' hd) rfl hr) K
theorem Walk.isub (C : Walk W l Z a0 tb own code ml rt nm R Q) (pc' : Nat) {x y : Int32} (hd : decode code pc = .ok (.isub, 1)) (hp : pc' = pc + 1) (K : W h k n pc' Ls (.int (x - y) :: st)) : W h k n pc Ls (.int y :: .int x :: st) := by
  subst hp; exact C.plain (fun hA hx hb' hr => XS.isub hA hx rfl (hb hb' hd) rfl hr) K
theorem Walk.iand (C : Walk W l Z a0 tb own code ml rt nm R Q) (pc' : Nat) {x y : Int32} (hd : decode code pc = .ok (.iand, 1)) (hp : pc' = pc + 1) (K : W h k n pc' Ls (.int (x &&& y) :: st)) : W h k n pc Ls (.int y :: .int x :: st) := by
  subst hp; exact C.plain (fun hA hx hb' hr => XS.iand hA hx rfl (hb hb' hd) rfl hr) K
theorem Walk.imul (C : Walk W l Z a0 tb own code ml rt nm R Q) (pc' : Nat) {x y : Int32} (hd : decode code pc = .ok (.imul, 1)) (hp : pc' = pc + 1) (K : W h k n pc' Ls (.int (x * y) :: st)) : W h k n pc Ls (.int y :: .int x :: st) := by
  subst hp; exact C.plain (fun hA hx hb' hr => XS.imul hA hx rfl (hb hb' hd) rfl hr) K
theorem Walk.ixor (C : Walk W l Z a0 tb own code ml rt nm R Q) (pc' : Nat) {x y : Int32} (hd : decode code pc = .ok (.ixor, 1)) (hp : pc' = pc + 1) (K : W h k n pc' Ls (.int (x ^^^ y) :: st)) : W h k n pc Ls (.int y :: .int x :: st) := by
  subst hp; exact C.plain (fun hA hx hb' hr => XT.ixor hA hx rfl (hb hb' hd) rfl hr) K
theorem Walk.ior (C : Walk W l Z a0 tb own code ml rt nm R Q) (pc' : Nat) {x y : Int32} (hd : decode code pc = .ok (.ior, 1)) (hp : pc' = pc + 1) (K : W h k n pc' Ls (.int (x ||| y) :: st)) : W h k n pc Ls (.int y :: .int x :: st) := by
  subst hp; exact C.plain (fun hA hx hb' hr => XT.ior hA hx rfl (hb hb' hd) rfl hr) K
theorem Walk.ishl (C : Walk W l Z a0 tb own code ml rt nm R Q) (pc' : Nat) {x y : Int32} (hd : decode code pc = .ok (.ishl, 1)) (hp : pc' = pc + 1) (K : W h k n pc' Ls (.int (x <<< (y &&& 31)) :: st)) : W h k n pc Ls (.int y :: .int x :: st) := by
  subst hp; exact C.plain (fun hA hx hb' hr => XT.ishl hA hx rfl (hb hb' hd) rfl hr) K
theorem Walk.ishr (C : Walk W l Z a0 tb own code ml rt nm R Q) (pc' : Nat) {x y : Int32} (hd : decode code pc = .ok (.ishr, 1)) (hp : pc' = pc + 1) (K : W h k n pc' Ls (.int (x >>> (y &&& 31)) :: st)) : W h k n pc Ls (.int y :: .int x :: st) := by
  subst hp; exact C.plain (fun hA hx hb' hr => XT.ishr hA hx rfl (hb hb' hd) rfl hr) K
theorem Walk.iushr (C : Walk W l Z a0 tb own code ml rt nm R Q) (pc' : Nat) {x y : Int32} (hd : decode code pc = .ok (.iushr, 1)) (hp : pc' = pc + 1) (K : W h k n pc' Ls (.int (XT.ushr x y) :: st)) : W h k n pc Ls (.int y :: .int x :: st) := by
  subst hp; exact C.plain (fun hA hx hb' hr => XT.iushr hA hx rfl (hb hb' hd) rfl hr) K
theorem Walk.ladd (C : Walk W l Z a0 tb own code ml rt nm R Q) (pc' : Nat) {x y : Int64} (hd : decode code pc = .ok (.ladd, 1)) (hp : pc' = pc + 1) (K : W h k n pc' Ls (.long (x + y) :: st)) : W h k n pc Ls (.long y :: .long x :: st) := by
  subst hp; exact C.plain (fun hA hx hb' hr => XT.ladd hA hx rfl (hb hb' hd) rfl hr) K
theorem Walk.lsub (C : Walk W l Z a0 tb own code ml rt nm R Q) (pc' : Nat) {x y : Int64} (hd : decode code pc = .ok (.lsub, 1)) (hp : pc' = pc + 1) (K : W h k n pc' Ls (.long (x - y) :: st)) : W h k n pc Ls (.long y :: .long x :: st) := by
  subst hp; exact C.plain (fun hA hx hb' hr => XT.lsub hA hx rfl (hb hb' hd) rfl hr) K
theorem Walk.lmul (C : Walk W l Z a0 tb own code ml rt nm R Q) (pc' : Nat) {x y : Int64} (hd : decode code pc = .ok (.lmul, 1)) (hp : pc' = pc + 1) (K : W h k n pc' Ls (.long (x * y) :: st)) : W h k n pc Ls (.long y :: .long x :: st) := by
  subst hp; exact C.plain (fun hA hx hb' hr => XT.lmul hA hx rfl (hb hb' hd) rfl hr) K
theorem Walk.land (C : Walk W l Z a0 tb own code ml rt nm R Q) (pc' : Nat) {x y : Int64} (hd : decode code pc = .ok (.land, 1)) (hp : pc' = pc + 1) (K : W h k n pc' Ls (.long (x &&& y) :: st)) : W h k n pc Ls (.long y :: .long x :: st) := by
  subst hp; exact C.plain (fun hA hx hb' hr => XT.land hA hx rfl (hb hb' hd) rfl hr) K
theorem Walk.lor (C : Walk W l Z a0 tb own code ml rt nm R Q) (pc' : Nat) {x y : Int64} (hd : decode code pc = .ok (.lor, 1)) (hp : pc' = pc + 1) (K : W h k n pc' Ls (.long (x ||| y) :: st)) : W h k n pc Ls (.long y :: .long x :: st) := by
  subst hp; exact C.plain (fun hA hx hb' hr => XT.lor hA hx rfl (hb hb' hd) rfl hr) K
theorem Walk.lxor (C : Walk W l Z a0 tb own code ml rt nm R Q) (pc' : Nat) {x y : Int64} (hd : decode code pc = .ok (.lxor, 1)) (hp : pc' = pc + 1) (K : W h k n pc' Ls (.long (x ^^^ y) :: st)) : W h k n pc Ls (.long y :: .long x :: st) := by
  subst hp; exact C.plain (fun hA hx hb' hr => XT.lxor hA hx rfl (hb hb' hd) rfl hr) K
theorem Walk.lcmp (C : Walk W l Z a0 tb own code ml rt nm R Q) (pc' : Nat) {x y : Int64} (hd : decode code pc = .ok (.lcmp, 1)) (hp : pc' = pc + 1) (K : W h k n pc' Ls (.int (XT.cmpL x y) :: st)) : W h k n pc Ls (.long y :: .long x :: st) := by
  subst hp; exact C.plain (fun hA hx hb' hr => XT.lcmp hA hx rfl (hb hb' hd) rfl hr) K
theorem Walk.idiv (C : Walk W l Z a0 tb own code ml rt nm R Q) (pc' : Nat) {x y : Int32} (hd : decode code pc = .ok (.idiv, 1)) (hp : pc' = pc + 1) (hy : y ≠ 0) (K : W h k n pc' Ls (.int (x / y) :: st)) : W h k n pc Ls (.int y :: .int x :: st) := by
  subst hp; exact C.plain (fun hA hx hb' hr => XS.idiv hA hx rfl (hb hb' hd) rfl hy hr) K
theorem Walk.irem (C : Walk W l Z a0 tb own code ml rt nm R Q) (pc' : Nat) {x y : Int32} (hd : decode code pc = .ok (.irem, 1)) (hp : pc' = pc + 1) (hy : y ≠ 0) (K : W h k n pc' Ls (.int (x % y) :: st)) : W h k n pc Ls (.int y :: .int x :: st) := by
  subst hp; rw [← irem_eq_mod] at K; exact C.plain (fun hA hx hb' hr => XS.irem hA hx rfl (hb hb' hd) rfl hy hr) K
theorem Walk.i2l (C : Walk W l Z a0 tb own code ml rt nm R Q) (pc' : Nat) {x : Int32} (hd : decode code pc = .ok (.i2l, 1)) (hp : pc' = pc + 1) (K : W h k n pc' Ls (.long x.toInt64 :: st)) : W h k n pc Ls (.int x :: st) := by
  subst hp; exact C.plain (fun hA hx hb' hr => XT.i2l hA hx rfl (hb hb' hd) rfl hr) K
theorem Walk.l2i (C : Walk W l Z a0 tb own code ml rt nm R Q) (pc' : Nat) {x : Int64} (hd : decode code pc = .ok (.l2i, 1)) (hp : pc' = pc + 1) (K : W h k n pc' Ls (.int x.toInt32 :: st)) : W h k n pc Ls (.long x :: st) := by
  subst hp; exact C.plain (fun hA hx hb' hr => XT.l2i hA hx rfl (hb hb' hd) rfl hr) K
theorem Walk.i2b (C : Walk W l Z a0 tb own code ml rt nm R Q) (pc' : Nat) {x : Int32} (hd : decode code pc = .ok (.i2b, 1)) (hp : pc' = pc + 1) (K : W h k n pc' Ls (.int x.toInt8.toInt32 :: st)) : W h k n pc Ls (.int x :: st) := by
  subst hp; exact C.plain (fun hA hx hb' hr => XT.i2b hA hx rfl (hb hb' hd) rfl hr) K
theorem Walk.i2c (C : Walk W l Z a0 tb own code ml rt nm R Q) (pc' : Nat) {x : Int32} (hd : decode code pc = .ok (.i2c, 1)) (hp : pc' = pc + 1) (K : W h k n pc' Ls (.int x.toUInt32.toUInt16.toUInt32.toInt32 :: st)) : W h k n pc Ls (.int x :: st) := by
  subst hp; exact C.plain (fun hA hx hb' hr => XT.i2c hA hx rfl (hb hb' hd) rfl hr) K
theorem Walk.ineg (C : Walk W l Z a0 tb own code ml rt nm R Q) (pc' : Nat) {x : Int32} (hd : decode code pc = .ok (.ineg, 1)) (hp : pc' = pc + 1) (K : W h k n pc' Ls (.int (-x) :: st)) : W h k n pc Ls (.int x :: st) := by
  subst hp; exact C.plain (fun hA hx hb' hr => XS.ineg hA hx rfl (hb hb' hd) rfl hr) K
theorem Walk.dup (C : Walk W l Z a0 tb own code ml rt nm R Q) (pc' : Nat) {x : Value} (hd : decode code pc = .ok (.dup, 1)) (hp : pc' = pc + 1) (hc : x.category = 1) (K : W h k n pc' Ls (x :: x :: st)) : W h k n pc Ls (x :: st) := by
  subst hp; exact C.plain (fun hA hx hb' hr => XS.dup hA hx rfl (hb hb' hd) rfl hc hr) K
theorem Walk.dupX1 (C : Walk W l Z a0 tb own code ml rt nm R Q) (pc' : Nat) {x y : Value} (hd : decode code pc = .ok (.dup_x1, 1)) (hp : pc' = pc + 1) (hc : x.category = 1) (hc' : y.category = 1) (K : W h k n pc' Ls (x :: y :: x :: st)) : W h k n pc Ls (x :: y :: st) := by
  subst hp; exact C.plain (fun hA hx hb' hr => XT.dupX1 hA hx rfl (hb hb' hd) rfl hc hc' hr) K
theorem Walk.dup2 (C : Walk W l Z a0 tb own code ml rt nm R Q) (pc' : Nat) {x y : Value} (hd : decode code pc = .ok (.dup2, 1)) (hp : pc' = pc + 1) (hc : x.category = 1) (hc' : y.category = 1) (K : W h k n pc' Ls (x :: y :: x :: y :: st)) : W h k n pc Ls (x :: y :: st) := by
  subst hp; exact C.plain (fun hA hx hb' hr => XT.dup2 hA hx rfl (hb hb' hd) rfl hc hc' hr) K
theorem Walk.pop (C : Walk W l Z a0 tb own code ml rt nm R Q) (pc' : Nat) {x : Value} (hd : decode code pc = .ok (.pop, 1)) (hp : pc' = pc + 1) (hc : x.category = 1) (K : W h k n pc' Ls st) : W h k n pc Ls (x :: st) := by
  subst hp; exact C.plain (fun hA hx hb' hr => XT.pop hA hx rfl (hb hb' hd) rfl hc hr) K
theorem Walk.iinc (C : Walk W l Z a0 tb own code ml rt nm R Q) (pc' : Nat) (Ls' : Array Slot) {i : Nat} {cst : Int} {x : Int32} (hd : decode code pc = .ok (.iinc i cst, 3)) (hp : pc' = pc + 3) (hl : Ls[i]? = some (.val (.int x))) (hl' : storeLocals Ls i (.int (x + Int32.ofInt cst)) = some Ls') (K : W h k n pc' Ls' st) : W h k n pc Ls st := by
  subst hp; exact C.plain (fun hA hx hb' hr => XS.iinc hA hx rfl (hb hb' hd) hl hl' hr) K
theorem Walk.goto (C : Walk W l Z a0 tb own code ml rt nm R Q) (pc' : Nat) {o : Int} (hd : decode code pc = .ok (.goto o, 3)) (hp : (pc : Int) + o = (pc' : Int)) (K : W h k n pc' Ls st) : W h k n pc Ls st :=
  C.plain (fun hA hx hb' hr => XS.goto hA hx rfl (pc0 := pc) (pc' := pc') rfl (hb hb' hd) (by omega) (by omega) hr) K
theorem Walk.ifT (C : Walk W l Z a0 tb own code ml rt nm R Q) (pc' : Nat) {cd : ClassFile.Cond} {x : Int32} {o : Int} (hd : decode code pc = .ok (.ifCond cd o, 3)) (hp : (pc : Int) + o = (pc' : Int)) (hc : ifCond.holds cd x = true) (K : W h k n pc' Ls st) : W h k n pc Ls (.int x :: st) :=
  C.plain (fun hA hx hb' hr => XS.ifYes hA hx rfl (pc0 := pc) (pc' := pc') rfl (hb hb' hd) rfl hc (by omega) (by omega) hr) K
theorem Walk.ifF (C : Walk W l Z a0 tb own code ml rt nm R Q) (pc' : Nat) {cd : ClassFile.Cond} {x : Int32} {o : Int} (hd : decode code pc = .ok (.ifCond cd o, 3)) (hp : pc' = pc + 3) (hc : ifCond.holds cd x = false) (K : W h k n pc' Ls st) : W h k n pc Ls (.int x :: st) := by
  subst hp; exact C.plain (fun hA hx hb' hr => XS.ifNo hA hx rfl (hb hb' hd) rfl hc hr) K
theorem Walk.icmpT (C : Walk W l Z a0 tb own code ml rt nm R Q) (pc' : Nat) {cd : ClassFile.Cond} {x y : Int32} {o : Int} (hd : decode code pc = .ok (.if_icmp cd o, 3)) (hp : (pc : Int) + o = (pc' : Int)) (hc : if_icmp.holds cd x y = true) (K : W h k n pc' Ls st) : W h k n pc Ls (.int y :: .int x :: st) :=
  C.plain (fun hA hx hb' hr => XS.icmpYes hA hx rfl (pc0 := pc) (pc' := pc') rfl (hb hb' hd) rfl hc (by omega) (by omega) hr) K
theorem Walk.icmpF (C : Walk W l Z a0 tb own code ml rt nm R Q) (pc' : Nat) {cd : ClassFile.Cond} {x y : Int32} {o : Int} (hd : decode code pc = .ok (.if_icmp cd o, 3)) (hp : pc' = pc + 3) (hc : if_icmp.holds cd x y = false) (K : W h k n pc' Ls st) : W h k n pc Ls (.int y :: .int x :: st) := by
  subst hp; exact C.plain (fun hA hx hb' hr => XS.icmpNo hA hx rfl (hb hb' hd) rfl hc hr) K
theorem Walk.acmpT (C : Walk W l Z a0 tb own code ml rt nm R Q) (pc' : Nat) {cd : ClassFile.ACond} {x y : Value} {o : Int} (hd : decode code pc = .ok (.if_acmp cd o, 3)) (hp : (pc : Int) + o = (pc' : Int)) (h1 : x.isRef = true) (h2 : y.isRef = true) (hc : XT.acmp cd x y = true) (K : W h k n pc' Ls st) : W h k n pc Ls (y :: x :: st) :=
  C.plain (fun hA hx hb' hr => XT.acmpYes hA hx rfl (pc0 := pc) (pc' := pc') rfl (hb hb' hd) rfl h1 h2 hc (by omega) (by omega) hr) K
theorem Walk.acmpF (C : Walk W l Z a0 tb own code ml rt nm R Q) (pc' : Nat) {cd : ClassFile.ACond} {x y : Value} {o : Int} (hd : decode code pc = .ok (.if_acmp cd o, 3)) (hp : pc' = pc + 3) (h1 : x.isRef = true) (h2 : y.isRef = true) (hc : XT.acmp cd x y = false) (K : W h k n pc' Ls st) : W h k n pc Ls (y :: x :: st) := by
  subst hp; exact C.plain (fun hA hx hb' hr => XT.acmpNo hA hx rfl (hb hb' hd) rfl h1 h2 hc hr) K
theorem Walk.ifnullT (C : Walk W l Z a0 tb own code ml rt nm R Q) (pc' : Nat) {o : Int} (hd : decode code pc = .ok (.ifnull o, 3)) (hp : (pc : Int) + o = (pc' : Int)) (K : W h k n pc' Ls st) : W h k n pc Ls (.null :: st) :=
  C.plain (fun hA hx hb' hr => XS.ifnullYes hA hx rfl (pc0 := pc) (pc' := pc') rfl (hb hb' hd) rfl (by omega) (by omega) hr) K
theorem Walk.ifnullF (C : Walk W l Z a0 tb own code ml rt nm R Q) (pc' : Nat) {b : Addr} {o : Int} (hd : decode code pc = .ok (.ifnull o, 3)) (hp : pc' = pc + 3) (K : W h k n pc' Ls st) : W h k n pc Ls (.ref b :: st) := by
  subst hp; exact C.plain (fun hA hx hb' hr => XS.ifnullNo hA hx rfl (hb hb' hd) rfl hr) K
theorem Walk.ifnonnullT (C : Walk W l Z a0 tb own code ml rt nm R Q) (pc' : Nat) {b : Addr} {o : Int} (hd : decode code pc = .ok (.ifnonnull o, 3)) (hp : (pc : Int) + o = (pc' : Int)) (K : W h k n pc' Ls st) : W h k n pc Ls (.ref b :: st) :=
  C.plain (fun hA hx hb' hr => XT.ifnonnullYes hA hx rfl (pc0 := pc) (pc' := pc') rfl (hb hb' hd) rfl (by omega) (by omega) hr) K
theorem Walk.ifnonnullF (C : Walk W l Z a0 tb own code ml rt nm R Q) (pc' : Nat) {o : Int} (hd : decode code pc = .ok (.ifnonnull o, 3)) (hp : pc' = pc + 3) (K : W h k n pc' Ls st) : W h k n pc Ls (.null :: st) := by
  subst hp; exact C.plain (fun hA hx hb' hr => XT.ifnonnullNo hA hx rfl (hb hb' hd) rfl hr) K
theorem Walk.lshl (C : Walk W l Z a0 tb own code ml rt nm R Q) (pc' : Nat) {x : Int64} {y : Int32} (hd : decode code pc = .ok (.lshl, 1)) (hp : pc' = pc + 1) (K : W h k n pc' Ls (.long (x <<< (y.toInt64 &&& 63)) :: st)) : W h k n pc Ls (.int y :: .long x :: st) := by
  subst hp; exact C.plain (fun hA hx hb' hr => XT.lshl hA hx rfl (hb hb' hd) rfl hr) K
theorem Walk.lshr (C : Walk W l Z a0 tb own code ml rt nm R Q) (pc' : Nat) {x : Int64} {y : Int32} (hd : decode code pc = .ok (.lshr, 1)) (hp : pc' = pc + 1) (K : W h k n pc' Ls (.long (x >>> (y.toInt64 &&& 63)) :: st)) : W h k n pc Ls (.int y :: .long x :: st) := by
  subst hp; exact C.plain (fun hA hx hb' hr => XT.lshr hA hx rfl (hb hb' hd) rfl hr) K
theorem Walk.lushr (C : Walk W l Z a0 tb own code ml rt nm R Q) (pc' : Nat) {x : Int64} {y : Int32} (hd : decode code pc = .ok (.lushr, 1)) (hp : pc' = pc + 1) (K : W h k n pc' Ls (.long (XT.ushrL x y) :: st)) : W h k n pc Ls (.int y :: .long x :: st) := by
  subst hp; exact C.plain (fun hA hx hb' hr => XT.lushr hA hx rfl (hb hb' hd) rfl hr) K
/-! the returns -/
theorem Walk.ret (C : Walk W l Z a0 tb own code ml rt nm R Q) {v : Value} {t : FieldType} {i : Instr} (hd : decode code pc = .ok (i, 1)) (hrt : rt = some t) (hn : narrow t v = v)
    (hi : (i = .ireturn ∧ (t = .int ∨ t = .boolean ∨ t = .byte ∨ t = .char ∨ t = .short) ∧ ∃ z, v = .int z) ∨ (i = .lreturn ∧ t = .long ∧ ∃ z, v = .long z) ∨ (i = .dreturn ∧ t = .double ∧ ∃ z, v = .double z) ∨ (i = .freturn ∧ t = .float ∧ ∃ z, v = .float z) ∨ (i = .areturn ∧ t.isReference = true ∧ v.isRef = true))
    (hq : Q (some v) h) (hk : k ≤ R.cells) (hs : n ≤ R.slots) : W h k n pc Ls (v :: st) := by
  obtain ⟨p, e, s, m, args, below, meth, c, rfl, hx, hby, hml, hown, hrt', hlk, hZ, hnm, hw⟩ := C
  intro hE T locs X eT N
  subst eT hrt
  obtain ⟨fs, hr, hrun, hended, hW, hsame⟩ := X.leave (v := some v) (fun h => by rw [hrt'] at h; cases h)
  exact ⟨_, _, retOut X hx hrt' hn hi (hb hby hd) hr, hrun, hended, _, _, rfl, ⟨hq, hE, N⟩, ⟨_, rfl⟩, hW, hsame.mono hk hs⟩
theorem Walk.retI (C : Walk W l Z a0 tb own code ml rt nm R Q) {x : Int32} (t : FieldType) (hd : decode code pc = .ok (.ireturn, 1)) (hrt : rt = some t) (ht : t = .int ∨ t = .boolean ∨ t = .byte ∨ t = .char ∨ t = .short) (hn : nar t x = x)
    (hk : k ≤ R.cells) (hs : n ≤ R.slots) (hq : Q (some (.int x)) h) : W h k n pc Ls (.int x :: st) :=
  C.ret hd hrt (by have e : narrow t (.int x) = .int (nar t x) := by rcases ht with rfl | rfl | rfl | rfl | rfl <;> rfl
                   rw [e, hn]) (Or.inl ⟨rfl, ht, _, rfl⟩) hq hk hs
theorem Walk.retA (C : Walk W l Z a0 tb own code ml rt nm R Q) {v : Value} (t : FieldType) (hd : decode code pc = .ok (.areturn, 1)) (hrt : rt = some t) (ht : t.isReference = true) (hv : v.isRef = true)
    (hk : k ≤ R.cells) (hs : n ≤ R.slots) (hq : Q (some v) h) : W h k n pc Ls (v :: st) :=
  C.ret hd hrt (by cases t <;> first | (cases ht; done) | (cases v <;> first | (cases hv; done) | rfl)) (Or.inr (Or.inr (Or.inr (Or.inr ⟨rfl, ht, hv⟩)))) hq hk hs
theorem Walk.ret0 (C : Walk W l Z a0 tb own code ml rt nm R Q) (hd : decode code pc = .ok (.return_, 1)) (hrt : rt = none) (hk : k ≤ R.cells) (hs : n ≤ R.slots) (hq : Q none h) : W h k n pc Ls [] := by
  obtain ⟨p, e, s, m, args, below, meth, c, rfl, hx, hby, hml, hown, hrt', hlk, hZ, hnm, hw⟩ := C
  intro hE T locs X eT N
  subst eT hrt
  obtain ⟨fs, hr, hrun, hended, hW, hsame⟩ := X.leave (v := none) (fun _ => rfl)
  exact ⟨_, _, X.returnOut hx hrt' (hb hby hd) hr, hrun, hended, _, _, rfl, ⟨hq, hE, N⟩, ⟨_, rfl⟩, hW, hsame.mono hk hs⟩
/-! constants of the pool, static fields, fields -/
theorem Walk.ldc (C : Walk W l Z a0 tb own code ml rt nm R Q) (pc' : Nat) (v : Int32) {idx : Nat} (hd : decode code pc = .ok (.ldc idx, 2)) (hp : pc' = pc + 2) (w : Jvm.Cond.constant own idx v ∈ tb) (K : W h k n pc' Ls (.int v :: st)) : W h k n pc Ls st := by
  obtain ⟨p, e, s, m, args, below, meth, c, rfl, hx, hby, hml, hown, hrt', hlk, hZ, hnm, hw⟩ := C
  intro hE T locs X eT N
  subst hp
  obtain ⟨u, o, h1, h2⟩ := K hE T locs X eT N
  exact ⟨u, o, X.ldcI hx hown (mv hZ (hw _ w)) rfl (hb hby hd) h1, h2⟩
theorem Walk.ldcW (C : Walk W l Z a0 tb own code ml rt nm R Q) (pc' : Nat) (v : Int32) {idx : Nat} (hd : decode code pc = .ok (.ldc_w idx, 3)) (hp : pc' = pc + 3) (w : Jvm.Cond.constant own idx v ∈ tb) (K : W h k n pc' Ls (.int v :: st)) : W h k n pc Ls st := by
  obtain ⟨p, e, s, m, args, below, meth, c, rfl, hx, hby, hml, hown, hrt', hlk, hZ, hnm, hw⟩ := C
  intro hE T locs X eT N
  subst hp
  obtain ⟨u, o, h1, h2⟩ := K hE T locs X eT N
  exact ⟨u, o, X.ldcWI hx hown (mv hZ (hw _ w)) rfl (hb hby hd) h1, h2⟩
theorem Walk.ldc2 (C : Walk W l Z a0 tb own code ml rt nm R Q) (pc' : Nat) (v : Int64) {idx : Nat} (hd : decode code pc = .ok (.ldc2_w idx, 3)) (hp : pc' = pc + 3) (w : Jvm.Cond.constantLong own idx v ∈ tb) (K : W h k n pc' Ls (.long v :: st)) : W h k n pc Ls st := by
  obtain ⟨p, e, s, m, args, below, meth, c, rfl, hx, hby, hml, hown, hrt', hlk, hZ, hnm, hw⟩ := C
  intro hE T locs X eT N
  subst hp
  obtain ⟨u, o, h1, h2⟩ := K hE T locs X eT N
  exact ⟨u, o, X.ldc2J hx hown (mv hZ (hw _ w)) rfl (hb hby hd) h1, h2⟩
theorem Walk.getstatic (C : Walk W l Z a0 tb own code ml rt nm R Q) (pc' : Nat) {idx : Nat} {O f d : String} {v : Value} (hd : decode code pc = .ok (.getstatic idx, 3)) (hp : pc' = pc + 3) (w : Jvm.Cond.fieldLink own idx O f d ∈ tb) (F : Sta Z Z.heap O f d v) (K : W h k n pc' Ls (v :: st)) : W h k n pc Ls st := by
  obtain ⟨p, e, s, m, args, below, meth, c, rfl, hx, hby, hml, hown, hrt', hlk, hZ, hnm, hw⟩ := C
  intro hE T locs X eT N
  subst hp
  obtain ⟨T', X', e', S⟩ := getS X hx hZ hown (host := "") (hw _ w) Via.refl eT (F.ext hE) (g := mkF m pc Ls st) rfl (hb hby hd)
  obtain ⟨u, o, h1, h2⟩ := K hE T' locs X' e' N
  exact ⟨u, o, S _ h1, h2⟩
theorem Walk.getfield (C : Walk W l Z a0 tb own code ml rt nm R Q) (pc' : Nat) {idx : Nat} {R0 O f d : String} {a : Addr} {v : Value} (hd : decode code pc = .ok (.getfield idx, 3)) (hp : pc' = pc + 3) (w : Jvm.Cond.fieldLink own idx R0 f d ∈ tb) (via : Via Z R0 O f d) (F : Fld Z h a O f d v) (K : W h k n pc' Ls (v :: st)) : W h k n pc Ls (.ref a :: st) := by
  obtain ⟨p, e, s, m, args, below, meth, c, rfl, hx, hby, hml, hown, hrt', hlk, hZ, hnm, hw⟩ := C
  intro hE T locs X eT N
  subst hp
  obtain ⟨T', X', e', S⟩ := getF X hx hZ hown (host := "") (Or.inl (hw _ w)) via eT F (g := mkF m pc Ls (.ref a :: st)) rfl rfl (hb hby hd)
  obtain ⟨u, o, h1, h2⟩ := K hE T' locs X' e' N
  exact ⟨u, o, S _ h1, h2⟩
theorem Walk.getfieldOld (C : Walk W l Z a0 tb own code ml rt nm R Q) (pc' : Nat) {idx : Nat} {R0 O f d : String} {a : Addr} {v : Value} (hd : decode code pc = .ok (.getfield idx, 3)) (hp : pc' = pc + 3) (w : Jvm.Cond.fieldLink own idx R0 f d ∈ tb) (via : Via Z R0 O f d) (F : Fld Z Z.heap a O f d v) (K : W h k n pc' Ls (v :: st)) : W h k n pc Ls (.ref a :: st) :=
  C.kept fun hE => C.getfield pc' hd hp w via (F.ext hE) K
theorem Walk.putfield (C : Walk W l Z a0 tb own code ml rt nm R Q) (pc' : Nat) {idx kk : Nat} {R0 O f d D : String} {a : Addr} {v v' old : Value} (ty : FieldType) (hd : decode code pc = .ok (.putfield idx, 3)) (hp : pc' = pc + 3) (w : Jvm.Cond.fieldLink own idx R0 f d ∈ tb) (via : Via Z R0 O f d) (F : Fld Z h a O f d old) (E : Exa Z h a D)
    (L : Jvm.Cond.lays D O f d ∈ tb ∨ (Jvm.Cond.laysFinal D O f d ∈ tb ∧ own = O ∧ nm = "<init>")) (wi : Jvm.Cond.instantiable D kk ∈ tb) (hty : parseFieldDescriptor d = some ty) (hn : narrow ty v = v') (hf : fits ty v' = true) (ha : Z.heap.size ≤ a)
    (K : ∀ h', Wr h h' a (Jvm.RoadKit.slotOf Z O f d) v' → W h' k n pc' Ls st) : W h k n pc Ls (v :: .ref a :: st) := by
  obtain ⟨p, e, s, m, args, below, meth, c, rfl, hx, hby, hml, hown, hrt', hlk, hZ, hnm, hw⟩ := C
  intro hE T locs X eT N
  subst hp
  obtain ⟨T', h', X', e', Wr', S⟩ := putFN X hx hZ hown (hw _ w) via eT F E (L.imp (hw _) fun q => ⟨hw _ q.1, q.2.1, hnm.trans q.2.2⟩) (hw _ wi) hty hn hf (g := mkF m pc Ls (v :: .ref a :: st)) rfl rfl (hb hby hd)
  obtain ⟨u, o, h1, h2⟩ := K h' Wr' (Old.wr (n0 := Z.heap.size) ⟨rfl, hE⟩ Wr' ha).2 T' _ X' e' (Fr.snoc X' N ha)
  exact ⟨u, o, S _ h1, h2⟩
/-! arrays: the places' values as a list -/
def Al (Z : State) (h : Heap) (a : Addr) (ty : FieldType) (vs : List Value) : Prop := ∃ c : Cell, Arr Z h a c ty ∧ c.slots.toList = vs
theorem Al.lt {a : Addr} {ty : FieldType} {vs : List Value} (A : Al Z h a ty vs) : a < h.size := by obtain ⟨c, A, -⟩ := A; exact A.lt
theorem Al.ext {h' : Heap} {a : Addr} {ty : FieldType} {vs : List Value} (A : Al Z h a ty vs) (E : Ext h h') : Al Z h' a ty vs := by obtain ⟨c, A, q⟩ := A; exact ⟨c, A.ext E, q⟩
theorem Al.keep {h' : Heap} {a : Addr} {ty : FieldType} {vs : List Value} {ws : List Addr} (A : Al Z h a ty vs) (K : Keep h h' ws) (q : a ∉ ws) : Al Z h' a ty vs := by obtain ⟨c, A, r⟩ := A; exact ⟨c, ⟨K.2.1 a c A.1 q, A.2⟩, r⟩
theorem Al.set {h' : Heap} {a : Addr} {ty : FieldType} {vs : List Value} {i : Nat} {v : Value} (A : Al Z h a ty vs) (Wr' : Wr h h' a i v) : Al Z h' a ty (vs.set i v) := by
  obtain ⟨c, A, rfl⟩ := A
  exact ⟨_, A.same Wr', by simp [Cell.setSlot]⟩
theorem list_at {c : Cell} {vs : List Value} (q : c.slots.toList = vs) (i : Nat) : c.slots[i]? = vs[i]? := by subst q; simp
theorem list_sz {c : Cell} {vs : List Value} (q : c.slots.toList = vs) : c.slots.size = vs.length := by subst q; simp
theorem Walk.newarray (C : Walk W l Z a0 tb own code ml rt nm R Q) (pc' : Nat) {aty : ArrayType} {z : Int32} (cap : Nat) (hd : decode code pc = .ok (.newarray aty, 2)) (hp : pc' = pc + 2) (w : Jvm.Cond.arrayClass (newarray.typeOf aty) ∈ tb) (hz : ¬ z < 0) (hcap : z.toNatClampNeg ≤ cap) (hb' : cap * 8 ≤ 536870912) (hc : k + 1 ≤ R.cells) (hl : n + cap ≤ R.slots)
    (K : ∀ h', Ext h h' → Al Z h' h.size (newarray.typeOf aty) (List.replicate z.toNatClampNeg (defaultValue (newarray.typeOf aty))) → W h' (k + 1) (n + cap) pc' Ls (.ref h.size :: st)) : W h k n pc Ls (.int z :: st) := by
  obtain ⟨p, e, s, m, args, below, meth, c, rfl, hx, hby, hml, hown, hrt', hlk, hZ, hnm, hw⟩ := C
  intro hE T locs X eT N
  subst hp
  obtain ⟨T', h', cA, X', e', E', A', S⟩ := newP X hx hZ (hw _ w) eT (g := mkF m pc Ls (.int z :: st)) rfl (hb hby hd) rfl hz hcap hb' hc hl
  obtain ⟨u, o, h1, h2⟩ := K h' E' ⟨_, A', by simp [newA]⟩ (Old.ext (n0 := Z.heap.size) ⟨rfl, hE⟩ E').2 T' _ X' e' N
  exact ⟨u, o, S _ h1, h2⟩
theorem Walk.anewarray (C : Walk W l Z a0 tb own code ml rt nm R Q) (pc' : Nat) {idx : Nat} {D : String} {z : Int32} (cap : Nat) (hd : decode code pc = .ok (.anewarray idx, 3)) (hp : pc' = pc + 3) (w : Jvm.Cond.classLink own idx D ∈ tb) (w2 : Jvm.Cond.arrayOver (.object D) ∈ tb) (hz : ¬ z < 0) (hcap : z.toNatClampNeg ≤ cap) (hb' : cap * 8 ≤ 536870912) (hc : k + 1 ≤ R.cells) (hl : n + cap ≤ R.slots)
    (K : ∀ h' cA, Ext h h' → (∃ c : Cell, Arr Z h' h.size c (.object D) ∧ c.cls = cA ∧ c.slots.toList = List.replicate z.toNatClampNeg .null) → Ovr Z cA D → W h' (k + 1) (n + cap) pc' Ls (.ref h.size :: st)) : W h k n pc Ls (.int z :: st) := by
  obtain ⟨p, e, s, m, args, below, meth, c, rfl, hx, hby, hml, hown, hrt', hlk, hZ, hnm, hw⟩ := C
  intro hE T locs X eT N
  subst hp
  obtain ⟨T', h', cA, X', e', E', A', O', S⟩ := newR X hx hZ hown (hw _ w) (hw _ w2) eT (g := mkF m pc Ls (.int z :: st)) rfl (hb hby hd) rfl hz hcap hb' hc hl
  obtain ⟨u, o, h1, h2⟩ := K h' cA E' ⟨_, A', rfl, by simp [newA, defaultValue]⟩ O' (Old.ext (n0 := Z.heap.size) ⟨rfl, hE⟩ E').2 T' _ X' e' N
  exact ⟨u, o, S _ h1, h2⟩
/-- an array over the class D: its class, its places -/
def Ro (Z : State) (h : Heap) (a : Addr) (D : String) (cA : ClassId) (vs : List Value) : Prop := ∃ c : Cell, Arr Z h a c (.object D) ∧ c.cls = cA ∧ c.slots.toList = vs
theorem Ro.lt {a : Addr} {D : String} {cA : ClassId} {vs : List Value} (A : Ro Z h a D cA vs) : a < h.size := by obtain ⟨c, A, -⟩ := A; exact A.lt
theorem Ro.ext {h' : Heap} {a : Addr} {D : String} {cA : ClassId} {vs : List Value} (A : Ro Z h a D cA vs) (E : Ext h h') : Ro Z h' a D cA vs := by obtain ⟨c, A, q⟩ := A; exact ⟨c, A.ext E, q⟩
theorem Ro.keep {h' : Heap} {a : Addr} {D : String} {cA : ClassId} {vs : List Value} {ws : List Addr} (A : Ro Z h a D cA vs) (K : Keep h h' ws) (q : a ∉ ws) : Ro Z h' a D cA vs := by obtain ⟨c, A, r⟩ := A; exact ⟨c, ⟨K.2.1 a c A.1 q, A.2⟩, r⟩
theorem Walk.aastore (C : Walk W l Z a0 tb own code ml rt nm R Q) (pc' : Nat) {a b : Addr} {D : String} {cA : ClassId} {vs : List Value} {j : Int32} (i : Nat) (hd : decode code pc = .ok (.aastore, 1)) (hp : pc' = pc + 1) (A : Ro Z h a D cA vs) (O : Ovr Z cA D) (I : Ins Z h b D true) (ha : Z.heap.size ≤ a) (hn : ¬ j < 0) (hi : j.toNatClampNeg = i) (hl : i < vs.length)
    (K : ∀ h', Wr h h' a i (.ref b) → Ro Z h' a D cA (vs.set i (.ref b)) → W h' k n pc' Ls st) : W h k n pc Ls (.ref b :: .int j :: .ref a :: st) := by
  obtain ⟨p, e, s, m, args, below, meth, c, rfl, hx, hby, hml, hown, hrt', hlk, hZ, hnm, hw⟩ := C
  intro hE T locs X eT N
  subst hp
  obtain ⟨cl, A1, A2, A3⟩ := A
  have hj : ¬ (j < 0 ∨ cl.slots.size ≤ j.toNatClampNeg) := by rw [list_sz A3, hi]; exact fun q => q.elim hn (fun q => absurd hl (Nat.not_lt.mpr q))
  obtain ⟨T', h', X', e', Wr', S⟩ := stR X hx hZ eT A1 hj rfl (Sto.ofV A1 A2 O I) (g := mkF m pc Ls (.ref b :: .int j :: .ref a :: st)) rfl rfl (hb hby hd)
  rw [hi] at Wr'
  have R' : Ro Z h' a D cA (vs.set i (.ref b)) := ⟨_, A1.same Wr', by simpa [Cell.setSlot] using A2, by subst A3; simp [Cell.setSlot]⟩
  obtain ⟨u, o, h1, h2⟩ := K h' Wr' R' (Old.wr (n0 := Z.heap.size) ⟨rfl, hE⟩ Wr' ha).2 T' _ X' e' (Fr.snoc X' N ha)
  exact ⟨u, o, S _ h1, h2⟩
theorem Walk.castore (C : Walk W l Z a0 tb own code ml rt nm R Q) (pc' : Nat) {a : Addr} {vs : List Value} {j x : Int32} (i : Nat) (x' : Int32) (hd : decode code pc = .ok (.castore, 1)) (hp : pc' = pc + 1) (A : Al Z h a .char vs) (ha : Z.heap.size ≤ a) (hn : ¬ j < 0) (hi : j.toNatClampNeg = i) (hl : i < vs.length) (hx' : nar .char x = x')
    (K : ∀ h', Wr h h' a i (.int x') → Al Z h' a .char (vs.set i (.int x')) → W h' k n pc' Ls st) : W h k n pc Ls (.int x :: .int j :: .ref a :: st) := by
  obtain ⟨p, e, s, m, args, below, meth, c, rfl, hx, hby, hml, hown, hrt', hlk, hZ, hnm, hw⟩ := C
  intro hE T locs X eT N
  subst hp
  have A' := A
  obtain ⟨cl, A1, A3⟩ := A
  have hj : ¬ (j < 0 ∨ cl.slots.size ≤ j.toNatClampNeg) := by rw [list_sz A3, hi]; exact fun q => q.elim hn (fun q => absurd hl (Nat.not_lt.mpr q))
  obtain ⟨T', h', X', e', Wr', S⟩ := stC X hx hZ eT A1 hj (g := mkF m pc Ls (.int x :: .int j :: .ref a :: st)) rfl rfl (hb hby hd)
  rw [hi, hx'] at Wr'
  obtain ⟨u, o, h1, h2⟩ := K h' Wr' (A'.set Wr') (Old.wr (n0 := Z.heap.size) ⟨rfl, hE⟩ Wr' ha).2 T' _ X' e' (Fr.snoc X' N ha)
  exact ⟨u, o, S _ h1, h2⟩
theorem Walk.bastoreB (C : Walk W l Z a0 tb own code ml rt nm R Q) (pc' : Nat) {a : Addr} {vs : List Value} {j x : Int32} (i : Nat) (x' : Int32) (hd : decode code pc = .ok (.bastore, 1)) (hp : pc' = pc + 1) (A : Al Z h a .byte vs) (ha : Z.heap.size ≤ a) (hn : ¬ j < 0) (hi : j.toNatClampNeg = i) (hl : i < vs.length) (hx' : nar .byte x = x')
    (K : ∀ h', Wr h h' a i (.int x') → Al Z h' a .byte (vs.set i (.int x')) → W h' k n pc' Ls st) : W h k n pc Ls (.int x :: .int j :: .ref a :: st) := by
  obtain ⟨p, e, s, m, args, below, meth, c, rfl, hx, hby, hml, hown, hrt', hlk, hZ, hnm, hw⟩ := C
  intro hE T locs X eT N
  subst hp
  have A' := A
  obtain ⟨cl, A1, A3⟩ := A
  have hj : ¬ (j < 0 ∨ cl.slots.size ≤ j.toNatClampNeg) := by rw [list_sz A3, hi]; exact fun q => q.elim hn (fun q => absurd hl (Nat.not_lt.mpr q))
  obtain ⟨T', h', X', e', Wr', S⟩ := stB X hx hZ eT A1 hj (g := mkF m pc Ls (.int x :: .int j :: .ref a :: st)) rfl rfl (hb hby hd)
  rw [hi, hx'] at Wr'
  obtain ⟨u, o, h1, h2⟩ := K h' Wr' (A'.set Wr') (Old.wr (n0 := Z.heap.size) ⟨rfl, hE⟩ Wr' ha).2 T' _ X' e' (Fr.snoc X' N ha)
  exact ⟨u, o, S _ h1, h2⟩
theorem Walk.bastoreZ (C : Walk W l Z a0 tb own code ml rt nm R Q) (pc' : Nat) {a : Addr} {vs : List Value} {j x : Int32} (i : Nat) (x' : Int32) (hd : decode code pc = .ok (.bastore, 1)) (hp : pc' = pc + 1) (A : Al Z h a .boolean vs) (ha : Z.heap.size ≤ a) (hn : ¬ j < 0) (hi : j.toNatClampNeg = i) (hl : i < vs.length) (hx' : nar .boolean x = x')
    (K : ∀ h', Wr h h' a i (.int x') → Al Z h' a .boolean (vs.set i (.int x')) → W h' k n pc' Ls st) : W h k n pc Ls (.int x :: .int j :: .ref a :: st) := by
  obtain ⟨p, e, s, m, args, below, meth, c, rfl, hx, hby, hml, hown, hrt', hlk, hZ, hnm, hw⟩ := C
  intro hE T locs X eT N
  subst hp
  have A' := A
  obtain ⟨cl, A1, A3⟩ := A
  have hj : ¬ (j < 0 ∨ cl.slots.size ≤ j.toNatClampNeg) := by rw [list_sz A3, hi]; exact fun q => q.elim hn (fun q => absurd hl (Nat.not_lt.mpr q))
  obtain ⟨T', h', X', e', Wr', S⟩ := stZ X hx hZ eT A1 hj (g := mkF m pc Ls (.int x :: .int j :: .ref a :: st)) rfl rfl (hb hby hd)
  rw [hi, hx'] at Wr'
  obtain ⟨u, o, h1, h2⟩ := K h' Wr' (A'.set Wr') (Old.wr (n0 := Z.heap.size) ⟨rfl, hE⟩ Wr' ha).2 T' _ X' e' (Fr.snoc X' N ha)
  exact ⟨u, o, S _ h1, h2⟩
theorem Walk.iastore (C : Walk W l Z a0 tb own code ml rt nm R Q) (pc' : Nat) {a : Addr} {vs : List Value} {j x : Int32} (i : Nat) (hd : decode code pc = .ok (.iastore, 1)) (hp : pc' = pc + 1) (A : Al Z h a .int vs) (ha : Z.heap.size ≤ a) (hn : ¬ j < 0) (hi : j.toNatClampNeg = i) (hl : i < vs.length)
    (K : ∀ h', Wr h h' a i (.int x) → Al Z h' a .int (vs.set i (.int x)) → W h' k n pc' Ls st) : W h k n pc Ls (.int x :: .int j :: .ref a :: st) := by
  obtain ⟨p, e, s, m, args, below, meth, c, rfl, hx, hby, hml, hown, hrt', hlk, hZ, hnm, hw⟩ := C
  intro hE T locs X eT N
  subst hp
  have A' := A
  obtain ⟨cl, A1, A3⟩ := A
  have hj : ¬ (j < 0 ∨ cl.slots.size ≤ j.toNatClampNeg) := by rw [list_sz A3, hi]; exact fun q => q.elim hn (fun q => absurd hl (Nat.not_lt.mpr q))
  obtain ⟨T', h', X', e', Wr', S⟩ := stI X hx hZ eT A1 hj (g := mkF m pc Ls (.int x :: .int j :: .ref a :: st)) rfl rfl (hb hby hd)
  rw [hi] at Wr'
  obtain ⟨u, o, h1, h2⟩ := K h' Wr' (A'.set Wr') (Old.wr (n0 := Z.heap.size) ⟨rfl, hE⟩ Wr' ha).2 T' _ X' e' (Fr.snoc X' N ha)
  exact ⟨u, o, S _ h1, h2⟩
theorem Walk.iaload (C : Walk W l Z a0 tb own code ml rt nm R Q) (pc' : Nat) {a : Addr} {vs : List Value} {j : Int32} (i : Nat) (v : Value) (hd : decode code pc = .ok (.iaload, 1)) (hp : pc' = pc + 1) (A : Al Z h a .int vs) (hn : ¬ j < 0) (hi : j.toNatClampNeg = i) (hv : vs[i]? = some v)
    (K : W h k n pc' Ls (v :: st)) : W h k n pc Ls (.int j :: .ref a :: st) := by
  obtain ⟨p, e, s, m, args, below, meth, c, rfl, hx, hby, hml, hown, hrt', hlk, hZ, hnm, hw⟩ := C
  intro hE T locs X eT N
  subst hp
  obtain ⟨cl, A1, A3⟩ := A
  have hl : i < vs.length := (List.getElem?_eq_some_iff.mp hv).1
  have hj : ¬ (j < 0 ∨ cl.slots.size ≤ j.toNatClampNeg) := by rw [list_sz A3, hi]; exact fun q => q.elim hn (fun q => absurd hl (Nat.not_lt.mpr q))
  obtain ⟨u, o, h1, h2⟩ := K hE T _ X eT N
  exact ⟨u, o, X.iaload hx (by rw [eT]; exact A1.1) (State.isArrayOf_alike hZ.alike A1.2.1) A1.2.2 hj (by rw [hi, list_at A3]; exact hv) (g := mkF m pc Ls (.int j :: .ref a :: st)) rfl rfl (hb hby hd) _ h1, h2⟩
theorem Walk.caload (C : Walk W l Z a0 tb own code ml rt nm R Q) (pc' : Nat) {a : Addr} {vs : List Value} {j : Int32} (i : Nat) (v : Value) (hd : decode code pc = .ok (.caload, 1)) (hp : pc' = pc + 1) (A : Al Z h a .char vs) (hn : ¬ j < 0) (hi : j.toNatClampNeg = i) (hv : vs[i]? = some v)
    (K : W h k n pc' Ls (v :: st)) : W h k n pc Ls (.int j :: .ref a :: st) := by
  obtain ⟨p, e, s, m, args, below, meth, c, rfl, hx, hby, hml, hown, hrt', hlk, hZ, hnm, hw⟩ := C
  intro hE T locs X eT N
  subst hp
  obtain ⟨cl, A1, A3⟩ := A
  have hl : i < vs.length := (List.getElem?_eq_some_iff.mp hv).1
  have hj : ¬ (j < 0 ∨ cl.slots.size ≤ j.toNatClampNeg) := by rw [list_sz A3, hi]; exact fun q => q.elim hn (fun q => absurd hl (Nat.not_lt.mpr q))
  obtain ⟨u, o, h1, h2⟩ := K hE T _ X eT N
  exact ⟨u, o, X.caload hx (by rw [eT]; exact A1.1) (State.isArrayOf_alike hZ.alike A1.2.1) A1.2.2 hj (by rw [hi, list_at A3]; exact hv) (g := mkF m pc Ls (.int j :: .ref a :: st)) rfl rfl (hb hby hd) _ h1, h2⟩
theorem Walk.baloadB (C : Walk W l Z a0 tb own code ml rt nm R Q) (pc' : Nat) {a : Addr} {vs : List Value} {j : Int32} (i : Nat) (v : Value) (hd : decode code pc = .ok (.baload, 1)) (hp : pc' = pc + 1) (A : Al Z h a .byte vs) (hn : ¬ j < 0) (hi : j.toNatClampNeg = i) (hv : vs[i]? = some v)
    (K : W h k n pc' Ls (v :: st)) : W h k n pc Ls (.int j :: .ref a :: st) := by
  obtain ⟨p, e, s, m, args, below, meth, c, rfl, hx, hby, hml, hown, hrt', hlk, hZ, hnm, hw⟩ := C
  intro hE T locs X eT N
  subst hp
  obtain ⟨cl, A1, A3⟩ := A
  have hl : i < vs.length := (List.getElem?_eq_some_iff.mp hv).1
  have hj : ¬ (j < 0 ∨ cl.slots.size ≤ j.toNatClampNeg) := by rw [list_sz A3, hi]; exact fun q => q.elim hn (fun q => absurd hl (Nat.not_lt.mpr q))
  obtain ⟨u, o, h1, h2⟩ := K hE T _ X eT N
  exact ⟨u, o, X.baloadBytes hx (by rw [eT]; exact A1.1) (State.isArrayOf_alike hZ.alike A1.2.1) A1.2.2 hj (by rw [hi, list_at A3]; exact hv) (g := mkF m pc Ls (.int j :: .ref a :: st)) rfl rfl (hb hby hd) _ h1, h2⟩
theorem Walk.baloadZ (C : Walk W l Z a0 tb own code ml rt nm R Q) (pc' : Nat) {a : Addr} {vs : List Value} {j : Int32} (i : Nat) (v : Value) (hd : decode code pc = .ok (.baload, 1)) (hp : pc' = pc + 1) (A : Al Z h a .boolean vs) (hn : ¬ j < 0) (hi : j.toNatClampNeg = i) (hv : vs[i]? = some v)
    (K : W h k n pc' Ls (v :: st)) : W h k n pc Ls (.int j :: .ref a :: st) := by
  obtain ⟨p, e, s, m, args, below, meth, c, rfl, hx, hby, hml, hown, hrt', hlk, hZ, hnm, hw⟩ := C
  intro hE T locs X eT N
  subst hp
  obtain ⟨cl, A1, A3⟩ := A
  have hl : i < vs.length := (List.getElem?_eq_some_iff.mp hv).1
  have hj : ¬ (j < 0 ∨ cl.slots.size ≤ j.toNatClampNeg) := by rw [list_sz A3, hi]; exact fun q => q.elim hn (fun q => absurd hl (Nat.not_lt.mpr q))
  obtain ⟨u, o, h1, h2⟩ := K hE T _ X eT N
  exact ⟨u, o, X.baloadBooleans hx (by rw [eT]; exact A1.1) (State.isArrayOf_alike hZ.alike A1.2.1) A1.2.2 hj (by rw [hi, list_at A3]; exact hv) (g := mkF m pc Ls (.int j :: .ref a :: st)) rfl rfl (hb hby hd) _ h1, h2⟩
theorem Walk.aaload (C : Walk W l Z a0 tb own code ml rt nm R Q) (pc' : Nat) {a : Addr} {D : String} {cA : ClassId} {vs : List Value} {j : Int32} (i : Nat) (v : Value) (hd : decode code pc = .ok (.aaload, 1)) (hp : pc' = pc + 1) (A : Ro Z h a D cA vs) (hn : ¬ j < 0) (hi : j.toNatClampNeg = i) (hv : vs[i]? = some v)
    (K : W h k n pc' Ls (v :: st)) : W h k n pc Ls (.int j :: .ref a :: st) := by
  obtain ⟨p, e, s, m, args, below, meth, c, rfl, hx, hby, hml, hown, hrt', hlk, hZ, hnm, hw⟩ := C
  intro hE T locs X eT N
  subst hp
  obtain ⟨cl, A1, A2, A3⟩ := A
  have hl : i < vs.length := (List.getElem?_eq_some_iff.mp hv).1
  have hj : ¬ (j < 0 ∨ cl.slots.size ≤ j.toNatClampNeg) := by rw [list_sz A3, hi]; exact fun q => q.elim hn (fun q => absurd hl (Nat.not_lt.mpr q))
  obtain ⟨u, o, h1, h2⟩ := K hE T _ X eT N
  exact ⟨u, o, X.aaload hx (by rw [eT]; exact A1.1) (State.isArrayOf_alike hZ.alike A1.2.1) rfl A1.2.2 hj (by rw [hi, list_at A3]; exact hv) (g := mkF m pc Ls (.int j :: .ref a :: st)) rfl rfl (hb hby hd) _ h1, h2⟩
theorem Walk.arraylength (C : Walk W l Z a0 tb own code ml rt nm R Q) (pc' : Nat) {a : Addr} {ty : FieldType} {vs : List Value} (z : Int32) (hd : decode code pc = .ok (.arraylength, 1)) (hp : pc' = pc + 1) (A : Al Z h a ty vs) (hz : vs.length.toInt32 = z)
    (K : W h k n pc' Ls (.int z :: st)) : W h k n pc Ls (.ref a :: st) := by
  obtain ⟨p, e, s, m, args, below, meth, c, rfl, hx, hby, hml, hown, hrt', hlk, hZ, hnm, hw⟩ := C
  intro hE T locs X eT N
  subst hp
  obtain ⟨cl, A1, A3⟩ := A
  obtain ⟨u, o, h1, h2⟩ := K hE T _ X eT N
  rw [← hz, ← list_sz A3] at h1
  exact ⟨u, o, X.arraylength hx (by rw [eT]; exact A1.1) (State.isArrayOf_alike hZ.alike A1.2.1) (g := mkF m pc Ls (.ref a :: st)) rfl rfl (hb hby hd) _ h1, h2⟩
/-! objects, calls -/
theorem Walk.new (C : Walk W l Z a0 tb own code ml rt nm R Q) (pc' : Nat) {idx sz : Nat} {D : String} (hd : decode code pc = .ok (.new idx, 3)) (hp : pc' = pc + 3) (w : Jvm.Cond.classLink own idx D ∈ tb) (wi : Jvm.Cond.instantiable D sz ∈ tb) (wz : Jvm.Cond.initialized D ∈ tb) (hc : k + 1 ≤ R.cells) (hl : n + sz ≤ R.slots)
    (K : ∀ h', Ext h h' → Exa Z h' h.size D → (∀ {O f d : String} {ty : FieldType}, Laid Z a0 D O f d → parseFieldDescriptor d = some ty → Fld Z h' h.size O f d (defaultValue ty)) → W h' (k + 1) (n + sz) pc' Ls (.ref h.size :: st)) : W h k n pc Ls st := by
  obtain ⟨p, e, s, m, args, below, meth, c, rfl, hx, hby, hml, hown, hrt', hlk, hZ, hnm, hw⟩ := C
  intro hE T locs X eT N
  subst hp
  obtain ⟨T', h', X', e', E', A', D', -, S⟩ := newO X hx hZ hown (hw _ w) (hw _ wi) (hw _ wz) eT (g := mkF m pc Ls st) rfl (hb hby hd) hc hl
  obtain ⟨u, o, h1, h2⟩ := K h' E' A' D' (Old.ext (n0 := Z.heap.size) ⟨rfl, hE⟩ E').2 T' _ X' e' N
  exact ⟨u, o, S _ h1, h2⟩
theorem Walk.initObj (C : Walk W l Z a0 tb own code ml rt nm R Q) (pc' : Nat) {idx : Nat} {a : Addr} (wd : Nat) (hd : decode code pc = .ok (.invokespecial idx, 3)) (hp : pc' = pc + 3) (w1 : Jvm.Cond.methodLink own idx Lib.objectInit ∈ tb) (w2 : Jvm.Cond.instanceMethod Lib.objectInit ∈ tb) (w3 : Jvm.Cond.code Lib.objectInit ⟨#[0xb1]⟩ 1 none ∈ tb) (hls : Ls.size = ml) (hf : 1 ≤ R.frames) (hwd : (st.map fun v => v.category).sum ≤ wd) (hl : wd + 12 ≤ R.locals)
    (K : W h k n pc' Ls st) : W h k n pc Ls (.ref a :: st) := by
  obtain ⟨p, e, s, m, args, below, meth, c, rfl, hx, hby, hml, hown, hrt', hlk, hZ, hnm, hw⟩ := C
  intro hE T locs X eT N
  subst hp
  obtain ⟨T', X', e', S⟩ := initO X hx hZ hown (hw _ w1) (hw _ w2) (hw _ w3) eT (g := mkF m pc Ls (.ref a :: st)) rfl (by show Ls.size = _; rw [hls, hml]) rfl (hb hby hd) hf (W := wd) (by show 2 * 0 + _ ≤ _; omega) hl
  obtain ⟨u, o, h1, h2⟩ := K hE T' _ X' e' N
  exact ⟨u, o, S _ h1, h2⟩
theorem Walk.checkcast (C : Walk W l Z a0 tb own code ml rt nm R Q) (pc' : Nat) {idx : Nat} {D : String} {a : Addr} (hd : decode code pc = .ok (.checkcast idx, 3)) (hp : pc' = pc + 3) (w : Jvm.Cond.classLink own idx D ∈ tb) (I : Ins Z h a D true) (K : W h k n pc' Ls (.ref a :: st)) : W h k n pc Ls (.ref a :: st) := by
  obtain ⟨p, e, s, m, args, below, meth, c, rfl, hx, hby, hml, hown, hrt', hlk, hZ, hnm, hw⟩ := C
  intro hE T locs X eT N
  subst hp
  obtain ⟨T', X', e', S⟩ := castY X hx hZ hown (hw _ w) eT I (g := mkF m pc Ls (.ref a :: st)) rfl rfl (hb hby hd)
  obtain ⟨u, o, h1, h2⟩ := K hE T' _ X' e' N
  exact ⟨u, o, S _ h1, h2⟩
theorem Walk.callS (C : Walk W l Z a0 tb own code ml rt nm R Q) (pc' : Nat) {idx : Nat} {y : MethodName} {yc : ByteArray} {ym : Nat} {yr : Option FieldType} {rm : Room} {as : List Value} {rest : List Value} {yQ : Option Value → Heap → Prop} {ps : List FieldType} {r : Option FieldType} (wd : Nat) (hd : decode code pc = .ok (.invokestatic idx, 3)) (hp : pc' = pc + 3) (w1 : Jvm.Cond.methodLink own idx y ∈ tb) (w2 : Jvm.Cond.static y ∈ tb) (w3 : Jvm.Cond.initialized y.cls ∈ tb) (w4 : Jvm.Cond.code y yc ym yr ∈ tb) (hy : y.cls ≠ "java/lang/invoke/MethodHandle" ∧ y.cls ≠ "java/lang/invoke/VarHandle") (con : Con l Z y yc ym yr rm as.toArray h yQ) (pd : parseMethodDescriptor y.desc = some ⟨ps, r⟩) (hlen : as.length = ps.length) (hls : Ls.size = ml) (hwd : (rest.map fun v => v.category).sum ≤ wd) (hf : rm.frames + 1 ≤ R.frames) (hl : wd + (ym + 11) + rm.locals ≤ R.locals) (hc : k + rm.cells ≤ R.cells) (hs : n + rm.slots ≤ R.slots) (hst : st = as.reverse ++ rest)
    (K : ∀ v h', yQ v h' → W h' (k + rm.cells) (n + rm.slots) pc' Ls (v.toList ++ rest)) : W h k n pc Ls st := by
  obtain ⟨p, e, s, m, args, below, meth, c, rfl, hx, hby, hml, hown, hrt', hlk, hZ, hnm, hw⟩ := C
  intro hE T locs X eT N
  subst hp
  obtain ⟨v, vm₁, ⟨T', L', k', n'⟩, -, X', P, S⟩ := Jvm.LawKit.callS X hx (y := y) hown (mvT hZ (hw _ w1)) (mvT hZ (hw _ w2)) (mvT hZ (hw _ w3)) (mvT hZ (hw _ w4)) hy (backOf (Q := fun v h L => yQ v h ∧ Ext Z.heap h ∧ Fr Z.heap.size L) (W := wd) (con hE []) hZ (hw _ w4) (hw _ w3) hf hl) (g := mkF m pc Ls st) rfl (by show Ls.size = _; rw [hls, hml]) (argsL := as) (rest := rest) (lenOf pd hlen) hst (by show 2 * 0 + _ ≤ _; omega) (hb hby hd) (fun _ _ => ⟨rfl, eT, hc, hs⟩)
  obtain ⟨Lc, ⟨hq, hE', hN⟩, l', y', z'⟩ := P
  dsimp only [Pt.U, Pt.locs, Pt.cells, Pt.slots] at X' l' y' z' S hq hE'
  subst l' y' z'
  obtain ⟨u, o, h1, h2⟩ := K v T'.heap hq hE' T' _ X' rfl (Fr.app N hN)
  exact ⟨u, o, S _ h1, h2⟩
theorem Walk.callV (C : Walk W l Z a0 tb own code ml rt nm R Q) (pc' : Nat) {idx : Nat} {a : Addr} {D : String} {x : MethodName} {y : MethodName} {yc : ByteArray} {ym : Nat} {yr : Option FieldType} {rm : Room} {as : List Value} {rest : List Value} {yQ : Option Value → Heap → Prop} {ps : List FieldType} {r : Option FieldType} (wd : Nat) (hd : decode code pc = .ok (.invokevirtual idx, 3)) (hp : pc' = pc + 3) (w1 : Jvm.Cond.methodLink own idx x ∈ tb) (w2 : Jvm.Cond.declares x ∈ tb) (w5 : Jvm.Cond.selects D x y ∈ tb) (nf : ∀ args s, (∀ d ∈ tb, d.before a0 Z = true) → Z.Warmed39 s.vm → (Jvm.Cond.selects D x y).before args s = true → NotFace s x) (w6 : Jvm.Cond.instanceMethod y ∈ tb) (w3 : Jvm.Cond.initialized y.cls ∈ tb) (w4 : Jvm.Cond.code y yc ym yr ∈ tb) (hy : x.cls ≠ "java/lang/invoke/MethodHandle" ∧ x.cls ≠ "java/lang/invoke/VarHandle") (E : Exa Z h a D) (con : Con l Z y yc ym yr rm (.ref a :: as).toArray h yQ) (pd : parseMethodDescriptor x.desc = some ⟨ps, r⟩) (hlen : as.length = ps.length) (hls : Ls.size = ml) (hwd : (rest.map fun v => v.category).sum ≤ wd) (hf : rm.frames + 1 ≤ R.frames) (hl : wd + (ym + 11) + rm.locals ≤ R.locals) (hc : k + rm.cells ≤ R.cells) (hs : n + rm.slots ≤ R.slots) (hst : st = as.reverse ++ .ref a :: rest)
    (K : ∀ v h', yQ v h' → W h' (k + rm.cells) (n + rm.slots) pc' Ls (v.toList ++ rest)) : W h k n pc Ls st := by
  obtain ⟨p, e, s, m, args, below, meth, c, rfl, hx, hby, hml, hown, hrt', hlk, hZ, hnm, hw⟩ := C
  intro hE T locs X eT N
  subst hp
  obtain ⟨cq, kq, q1, q2, q3⟩ := isOf (T := T) hZ eT E
  obtain ⟨v, vm₁, ⟨T', L', k', n'⟩, -, X', P, S⟩ := X.virtualBack hx (y := x) (z := y) hown (mvT hZ (hw _ w1)) (mvT hZ (hw _ w2)) (nf args s hw hZ (mvT hZ (hw _ w5))) (mvT hZ (hw _ w5)) (mvT hZ (hw _ w6)) hy (backOf (Q := fun v h L => yQ v h ∧ Ext Z.heap h ∧ Fr Z.heap.size L) (W := wd) (con hE []) hZ (hw _ w4) (hw _ w3) hf hl) q1 q3 (g := mkF m pc Ls st) rfl (by show Ls.size = _; rw [hls, hml]) (Steps.refl _) (argsL := as) (rest := rest) (lenOf pd hlen) hst (by show 2 * 0 + _ ≤ _; omega) (hb hby hd) (fun _ _ => ⟨rfl, eT, hc, hs⟩)
  obtain ⟨Lc, ⟨hq, hE', hN⟩, l', y', z'⟩ := P
  dsimp only [Pt.U, Pt.locs, Pt.cells, Pt.slots] at X' l' y' z' S hq hE'
  subst l' y' z'
  obtain ⟨u, o, h1, h2⟩ := K v T'.heap hq hE' T' _ X' rfl (Fr.app N hN)
  exact ⟨u, o, S.trans h1, h2⟩
theorem nfSelf {x : MethodName} {D : String} : ∀ args s, (∀ d ∈ tb, d.before a0 Z = true) → Z.Warmed39 s.vm → (Jvm.Cond.selects D x x).before args s = true → NotFace s x := fun _ _ _ _ q => notFace_of_selects q
theorem Walk.callI (C : Walk W l Z a0 tb own code ml rt nm R Q) (pc' : Nat) {idx : Nat} {a : Addr} {y : MethodName} {yc : ByteArray} {ym : Nat} {yr : Option FieldType} {rm : Room} {as : List Value} {rest : List Value} {yQ : Option Value → Heap → Prop} {ps : List FieldType} {r : Option FieldType} (wd : Nat) (hd : decode code pc = .ok (.invokespecial idx, 3)) (hp : pc' = pc + 3) (hy1 : y.name = "<init>") (hyr : yr = none) (w1 : Jvm.Cond.methodLink own idx y ∈ tb) (w6 : Jvm.Cond.instanceMethod y ∈ tb) (w3 : Jvm.Cond.initialized y.cls ∈ tb) (w4 : Jvm.Cond.code y yc ym yr ∈ tb) (hy : y.cls ≠ "java/lang/invoke/MethodHandle" ∧ y.cls ≠ "java/lang/invoke/VarHandle") (con : Con l Z y yc ym yr rm (.ref a :: as).toArray h yQ) (pd : parseMethodDescriptor y.desc = some ⟨ps, r⟩) (hlen : as.length = ps.length) (hls : Ls.size = ml) (hwd : (rest.map fun v => v.category).sum ≤ wd) (hf : rm.frames + 1 ≤ R.frames) (hl : wd + (ym + 11) + rm.locals ≤ R.locals) (hc : k + rm.cells ≤ R.cells) (hs : n + rm.slots ≤ R.slots) (hst : st = as.reverse ++ .ref a :: rest)
    (K : ∀ v h', yQ v h' → W h' (k + rm.cells) (n + rm.slots) pc' Ls (v.toList ++ rest)) : W h k n pc Ls st := by
  obtain ⟨p, e, s, m, args, below, meth, c, rfl, hx, hby, hml, hown, hrt', hlk, hZ, hnm, hw⟩ := C
  intro hE T locs X eT N
  subst hp
  subst hyr
  obtain ⟨v, vm₁, ⟨T', L', k', n'⟩, -, X', P, S⟩ := X.specialBack hx (y := y) hy1 hown (mvT hZ (hw _ w1)) (mvT hZ (hw _ w6)) (mvT hZ (hw _ w4)) hy (backOf (Q := fun v h L => yQ v h ∧ Ext Z.heap h ∧ Fr Z.heap.size L) (W := wd) (con hE []) hZ (hw _ w4) (hw _ w3) hf hl) (g := mkF m pc Ls st) rfl (by show Ls.size = _; rw [hls, hml]) (Steps.refl _) (a := a) (argsL := as) (rest := rest) (lenOf pd hlen) hst (by show 2 * 0 + _ ≤ _; omega) (hb hby hd) (fun _ _ => ⟨rfl, eT, hc, hs⟩)
  obtain ⟨Lc, ⟨hq, hE', hN⟩, l', y', z'⟩ := P
  dsimp only [Pt.U, Pt.locs, Pt.cells, Pt.slots] at X' l' y' z' S hq hE'
  subst l' y' z'
  obtain ⟨u, o, h1, h2⟩ := K v T'.heap hq hE' T' _ X' rfl (Fr.app N hN)
  exact ⟨u, o, S.trans h1, h2⟩
theorem Walk.callP (C : Walk W l Z a0 tb own code ml rt nm R Q) (pc' : Nat) {idx : Nat} {a : Addr} {D : String} {y : MethodName} {yc : ByteArray} {ym : Nat} {yr : Option FieldType} {rm : Room} {as : List Value} {rest : List Value} {yQ : Option Value → Heap → Prop} {ps : List FieldType} {r : Option FieldType} (wd : Nat) (hd : decode code pc = .ok (.invokevirtual idx, 3)) (hp : pc' = pc + 3) (w1 : Jvm.Cond.methodLink own idx y ∈ tb) (w5 : Jvm.Cond.selects y.cls y y ∈ tb) (w7 : Jvm.Cond.privateMethod y ∈ tb) (w6 : Jvm.Cond.instanceMethod y ∈ tb) (w3 : Jvm.Cond.initialized y.cls ∈ tb) (w4 : Jvm.Cond.code y yc ym yr ∈ tb) (hy : y.cls ≠ "java/lang/invoke/MethodHandle" ∧ y.cls ≠ "java/lang/invoke/VarHandle") (E : Exa Z h a D) (con : Con l Z y yc ym yr rm (.ref a :: as).toArray h yQ) (pd : parseMethodDescriptor y.desc = some ⟨ps, r⟩) (hlen : as.length = ps.length) (hls : Ls.size = ml) (hwd : (rest.map fun v => v.category).sum ≤ wd) (hf : rm.frames + 1 ≤ R.frames) (hl : wd + (ym + 11) + rm.locals ≤ R.locals) (hc : k + rm.cells ≤ R.cells) (hs : n + rm.slots ≤ R.slots) (hst : st = as.reverse ++ .ref a :: rest)
    (K : ∀ v h', yQ v h' → W h' (k + rm.cells) (n + rm.slots) pc' Ls (v.toList ++ rest)) : W h k n pc Ls st := by
  obtain ⟨p, e, s, m, args, below, meth, c, rfl, hx, hby, hml, hown, hrt', hlk, hZ, hnm, hw⟩ := C
  intro hE T locs X eT N
  subst hp
  obtain ⟨cell, hcl, hob⟩ := E.cell
  obtain ⟨v, vm₁, ⟨T', L', k', n'⟩, -, X', P, S⟩ := X.privateBack hx (y := y) hown (mvT hZ (hw _ w1)) (mvT hZ (hw _ w6)) (mvT hZ (hw _ w5)) (Cond.privateMethod_at (mvP (args := args) hZ (hw _ w7))) (mvT hZ (hw _ w4)) hy (backOf (Q := fun v h L => yQ v h ∧ Ext Z.heap h ∧ Fr Z.heap.size L) (W := wd) (con hE []) hZ (hw _ w4) (hw _ w3) hf hl) (g := mkF m pc Ls st) rfl (by show Ls.size = _; rw [hls, hml]) (Steps.refl _) (a := a) (by rw [eT]; exact hcl) hob (argsL := as) (rest := rest) (lenOf pd hlen) hst (by show 2 * 0 + _ ≤ _; omega) (hb hby hd) (fun _ _ => ⟨rfl, eT, hc, hs⟩)
  obtain ⟨Lc, ⟨hq, hE', hN⟩, l', y', z'⟩ := P
  dsimp only [Pt.U, Pt.locs, Pt.cells, Pt.slots] at X' l' y' z' S hq hE'
  subst l' y' z'
  obtain ⟨u, o, h1, h2⟩ := K v T'.heap hq hE' T' _ X' rfl (Fr.app N hN)
  exact ⟨u, o, S.trans h1, h2⟩
theorem Walk.callF (C : Walk W l Z a0 tb own code ml rt nm R Q) (pc' : Nat) {idx cnt : Nat} {a : Addr} {D : String} {x : MethodName} {y : MethodName} {yc : ByteArray} {ym : Nat} {yr : Option FieldType} {rm : Room} {as : List Value} {rest : List Value} {yQ : Option Value → Heap → Prop} {ps : List FieldType} {r : Option FieldType} (wd : Nat) (hd : decode code pc = .ok (.invokeinterface idx cnt, 5)) (hp : pc' = pc + 5) (w1 : Jvm.Cond.methodLink own idx x ∈ tb) (w2 : Jvm.Cond.declares x ∈ tb) (w7 : Jvm.Cond.interfaceMethod x.cls x.cls x.name x.desc ∈ tb) (w5 : Jvm.Cond.selects D x y ∈ tb) (w6 : Jvm.Cond.instanceMethod y ∈ tb) (w8 : Jvm.Cond.publicMethod y ∈ tb) (w9 : Jvm.Cond.unhidden D x.name x.desc ∈ tb) (w10 : Jvm.Cond.castable D x.cls ∈ tb) (hI : ((Jvm.Cond.interfaceMethod x.cls x.cls x.name x.desc).onTables && (Jvm.Cond.interfaceMethod x.cls x.cls x.name x.desc).keepsFace) = true) (w3 : Jvm.Cond.initialized y.cls ∈ tb) (w4 : Jvm.Cond.code y yc ym yr ∈ tb) (hy : x.cls ≠ "java/lang/invoke/MethodHandle" ∧ x.cls ≠ "java/lang/invoke/VarHandle") (E : Exa Z h a D) (con : Con l Z y yc ym yr rm (.ref a :: as).toArray h yQ) (pd : parseMethodDescriptor x.desc = some ⟨ps, r⟩) (hlen : as.length = ps.length) (hls : Ls.size = ml) (hwd : (rest.map fun v => v.category).sum ≤ wd) (hf : rm.frames + 1 ≤ R.frames) (hl : wd + (ym + 11) + rm.locals ≤ R.locals) (hc : k + rm.cells ≤ R.cells) (hs : n + rm.slots ≤ R.slots) (hst : st = as.reverse ++ .ref a :: rest)
    (K : ∀ v h', yQ v h' → W h' (k + rm.cells) (n + rm.slots) pc' Ls (v.toList ++ rest)) : W h k n pc Ls st := by
  obtain ⟨p, e, s, m, args, below, meth, c, rfl, hx, hby, hml, hown, hrt', hlk, hZ, hnm, hw⟩ := C
  intro hE T locs X eT N
  subst hp
  obtain ⟨cq, kq, q1, q2, q3⟩ := isOf (T := T) hZ eT E
  obtain ⟨v, vm₁, ⟨T', L', k', n'⟩, -, X', P, S⟩ := X.interfaceBack hx (xi := x) (y := y) hown (mvT hZ (hw _ w1)) (mvT hZ (hw _ w2)) (mvT hZ (hw _ w7) hI) (mvT hZ (hw _ w5)) (mvT hZ (hw _ w6)) (mvT hZ (hw _ w8)) (mvT hZ (hw _ w9)) (mvT hZ (hw _ w10)) hy (backOf (Q := fun v h L => yQ v h ∧ Ext Z.heap h ∧ Fr Z.heap.size L) (W := wd) (con hE []) hZ (hw _ w4) (hw _ w3) hf hl) q1 q2 q3 (g := mkF m pc Ls st) rfl (by show Ls.size = _; rw [hls, hml]) (Steps.refl _) (argsL := as) (rest := rest) (lenOf pd hlen) hst (by show 2 * 0 + _ ≤ _; omega) (hb hby hd) (fun _ _ => ⟨rfl, eT, hc, hs⟩)
  obtain ⟨Lc, ⟨hq, hE', hN⟩, l', y', z'⟩ := P
  dsimp only [Pt.U, Pt.locs, Pt.cells, Pt.slots] at X' l' y' z' S hq hE'
  subst l' y' z'
  obtain ⟨u, o, h1, h2⟩ := K v T'.heap hq hE' T' _ X' rfl (Fr.app N hN)
  exact ⟨u, o, S.trans h1, h2⟩
theorem Walk.instanceofT (C : Walk W l Z a0 tb own code ml rt nm R Q) (pc' : Nat) {idx : Nat} {D : String} {a : Addr} (hd : decode code pc = .ok (.instanceof idx, 3)) (hp : pc' = pc + 3) (w : Jvm.Cond.classLink own idx D ∈ tb) (I : Ins Z h a D true) (K : W h k n pc' Ls (.int 1 :: st)) : W h k n pc Ls (.ref a :: st) := by
  obtain ⟨p, e, s, m, args, below, meth, c, rfl, hx, hby, hml, hown, hrt', hlk, hZ, hnm, hw⟩ := C
  intro hE T locs X eT N
  subst hp
  obtain ⟨T', X', e', S⟩ := instY X hx hZ hown (hw _ w) eT I (g := mkF m pc Ls (.ref a :: st)) rfl rfl (hb hby hd)
  obtain ⟨u, o, h1, h2⟩ := K hE T' _ X' e' N
  exact ⟨u, o, S _ h1, h2⟩
theorem Ro.al {a : Addr} {D : String} {cA : ClassId} {vs : List Value} (A : Ro Z h a D cA vs) : Al Z h a (.object D) vs := by obtain ⟨c, A1, -, A3⟩ := A; exact ⟨c, A1, A3⟩
theorem Walk.aaloadA (C : Walk W l Z a0 tb own code ml rt nm R Q) (pc' : Nat) {a : Addr} {ty : FieldType} {vs : List Value} {j : Int32} (i : Nat) (v : Value) (hd : decode code pc = .ok (.aaload, 1)) (hp : pc' = pc + 1) (hty : ty.isReference = true) (A : Al Z h a ty vs) (hn : ¬ j < 0) (hi : j.toNatClampNeg = i) (hv : vs[i]? = some v)
    (K : W h k n pc' Ls (v :: st)) : W h k n pc Ls (.int j :: .ref a :: st) := by
  obtain ⟨p, e, s, m, args, below, meth, c, rfl, hx, hby, hml, hown, hrt', hlk, hZ, hnm, hw⟩ := C
  intro hE T locs X eT N
  subst hp
  obtain ⟨cl, A1, A3⟩ := A
  have hl : i < vs.length := (List.getElem?_eq_some_iff.mp hv).1
  have hj : ¬ (j < 0 ∨ cl.slots.size ≤ j.toNatClampNeg) := by rw [list_sz A3, hi]; exact fun q => q.elim hn (fun q => absurd hl (Nat.not_lt.mpr q))
  obtain ⟨u, o, h1, h2⟩ := K hE T _ X eT N
  exact ⟨u, o, X.aaload hx (by rw [eT]; exact A1.1) (State.isArrayOf_alike hZ.alike A1.2.1) hty A1.2.2 hj (by rw [hi, list_at A3]; exact hv) (g := mkF m pc Ls (.int j :: .ref a :: st)) rfl rfl (hb hby hd) _ h1, h2⟩
theorem Walk.clone (C : Walk W l Z a0 tb own code ml rt nm R Q) (pc' : Nat) {idx : Nat} {a : Addr} {ad : String} {cl : Cell} {ty : FieldType} (cap wd : Nat) (hd : decode code pc = .ok (.invokevirtual idx, 3)) (hp : pc' = pc + 3) (w1 : Jvm.Cond.methodLink own idx ⟨ad, "clone", "()Ljava/lang/Object;"⟩ ∈ tb) (w2 : Jvm.Cond.sameMethod ad "java/lang/Object" "clone" "()Ljava/lang/Object;" ∈ tb) (w3 : Jvm.Cond.native ⟨"java/lang/Object", "clone", "()Ljava/lang/Object;"⟩ ∈ tb) (w4 : Jvm.Cond.instanceMethod ⟨"java/lang/Object", "clone", "()Ljava/lang/Object;"⟩ ∈ tb) (w5 : Jvm.Cond.selects ad ⟨ad, "clone", "()Ljava/lang/Object;"⟩ ⟨"java/lang/Object", "clone", "()Ljava/lang/Object;"⟩ ∈ tb) (w6 : Jvm.Cond.castable ad "java/lang/Cloneable" ∈ tb)
    (A : Arr Z h a cl ty) (E : Exa Z h a ad) (F : FitC Z cl) (hls : Ls.size = ml) (hf : 1 ≤ R.frames) (hwd : (st.map fun v => v.category).sum ≤ wd) (hl : wd + 14 ≤ R.locals) (hcap : cl.slots.size ≤ cap) (hc : k + 1 ≤ R.cells) (hs : n + cap ≤ R.slots)
    (K : ∀ h', Ext h h' → Al Z h' h.size ty cl.slots.toList → Exa Z h' h.size ad → W h' (k + 1) (n + cap) pc' Ls (.ref h.size :: st)) : W h k n pc Ls (.ref a :: st) := by
  obtain ⟨p, e, s, m, args, below, meth, c, rfl, hx, hby, hml, hown, hrt', hlk, hZ, hnm, hw⟩ := C
  intro hE T locs X eT N
  subst hp
  obtain ⟨T', h', X', e', E', A', X2, S⟩ := cloneA X hx hZ hown (hw _ w1) (hw _ w2) (hw _ w3) (hw _ w4) (hw _ w5) (hw _ w6) eT A E F (g := mkF m pc Ls (.ref a :: st)) rfl (by show Ls.size = _; rw [hls, hml]) rfl (hb hby hd) hf (W := wd) (cap := cap) (by show 2 * 0 + _ ≤ _; omega) hl hcap hc hs
  obtain ⟨u, o, h1, h2⟩ := K h' E' ⟨_, A', rfl⟩ X2 (Old.ext (n0 := Z.heap.size) ⟨rfl, hE⟩ E').2 T' _ X' e' N
  exact ⟨u, o, S _ h1, h2⟩
end Rules
end Jvm.Own

namespace Jvm.Pilot.@@N@@
open Jvm Jvm.ClassFile Sem Op Lib Jvm.Free Jvm.Stand Jvm.LawKit Jvm.RoadKit Bundle Jvm.Own Jvm.Pilot.@@N@@.Jvm.D
theorem tw (i : Nat) {d : Jvm.Cond} (h : tables_1[i]? = some d := by rfl) : d ∈ tables_1 := List.mem_of_getElem? h
theorem pn0 : plainFor x = true := plainFor_of_name (by first | (simp [x, plainName, overriddenIn]; done) | decide +kernel)
theorem oI {x : Nat} (h : x < 2 ^ 31) : (Int32.ofNat x).toInt = x := Int32.toInt_ofNat_of_lt h
theorem o_lt {x y : Nat} (hx : x < 2 ^ 31) (hy : y < 2 ^ 31) : Int32.ofNat x < Int32.ofNat y ↔ x < y := by rw [Int32.lt_iff_toInt_lt, oI hx, oI hy]; omega
theorem o_add (x y : Nat) : Int32.ofNat x + Int32.ofNat y = Int32.ofNat (x + y) := (Int32.ofNat_add x y).symm
theorem o_nn {x : Nat} (h : x < 2 ^ 31) : ¬ Int32.ofNat x < 0 := by
  have e : (0 : Int32).toInt = 0 := rfl
  rw [Int32.lt_iff_toInt_lt, oI h, e]; omega
theorem o_cl {x : Nat} (h : x < 2 ^ 31) : (Int32.ofNat x).toNatClampNeg = x := clamp_of rfl h
theorem o_ne {x : Nat} (h : x < 2 ^ 31) (h0 : x ≠ 0) : ¬ Int32.ofNat x = 0 := fun q => by
  have r := congrArg Int32.toInt q
  have e : (0 : Int32).toInt = 0 := rfl
  rw [oI h, e] at r; omega
theorem o_inj {x y : Nat} (hx : x < 2 ^ 31) (hy : y < 2 ^ 31) (h : Int32.ofNat x = Int32.ofNat y) : x = y := by
  have r := congrArg Int32.toInt h
  rw [oI hx, oI hy] at r; omega
def by8 (c : Int32) : Int32 := c.toInt8.toInt32
theorem by8_nar (x : Int32) : nar .byte (by8 x) = by8 x := by
  show x.toInt8.toInt32.toInt8.toInt32 = x.toInt8.toInt32
  simp
abbrev iv' (xs : List Int32) : List Value := xs.map Value.int
/-- a String whose bytes are bs, in the byte[] at b, Latin-1 -/
def StrL (Z : State) (h : Heap) (a b : Addr) (bs : List Int32) : Prop :=
  Exa Z h a "java/lang/String" ∧ Fld Z h a "java/lang/String" "value" "[B" (.ref b) ∧ Fld Z h a "java/lang/String" "coder" "B" (.int 0) ∧ Al Z h b .byte (iv' bs)
theorem StrL.keep {Z : State} {h h' : Heap} {a b : Addr} {bs : List Int32} {ws : List Addr} (S : StrL Z h a b bs) (K : Keep h h' ws) (qa : a ∉ ws) (qb : b ∉ ws) : StrL Z h' a b bs := ⟨S.1.keep K, S.2.1.keep K qa, S.2.2.1.keep K qa, S.2.2.2.keep K qb⟩
theorem StrL.ext {Z : State} {h h' : Heap} {a b : Addr} {bs : List Int32} (S : StrL Z h a b bs) (E : Ext h h') : StrL Z h' a b bs := ⟨S.1.ext E, S.2.1.ext E, S.2.2.1.ext E, S.2.2.2.ext E⟩
theorem d5_0 : decode jdk_52_method_21_code 0 = .ok (.iconst 0, 1) := by decide +kernel
theorem d5_1 : decode jdk_52_method_21_code 1 = .ok (.istore 5, 2) := by decide +kernel
theorem d5_3 : decode jdk_52_method_21_code 3 = .ok (.iload 5, 2) := by decide +kernel
theorem d5_5 : decode jdk_52_method_21_code 5 = .ok (.iload 4, 2) := by decide +kernel
theorem d5_7 : decode jdk_52_method_21_code 7 = .ok (.if_icmp .ge 37, 3) := by decide +kernel
theorem d5_10 : decode jdk_52_method_21_code 10 = .ok (.aload_n 0, 1) := by decide +kernel
theorem d5_11 : decode jdk_52_method_21_code 11 = .ok (.iload_n 1, 1) := by decide +kernel
theorem d5_12 : decode jdk_52_method_21_code 12 = .ok (.caload, 1) := by decide +kernel
theorem d5_13 : decode jdk_52_method_21_code 13 = .ok (.istore 6, 2) := by decide +kernel
theorem d5_15 : decode jdk_52_method_21_code 15 = .ok (.iload 6, 2) := by decide +kernel
theorem d5_17 : decode jdk_52_method_21_code 17 = .ok (.sipush 255, 3) := by decide +kernel
theorem d5_20 : decode jdk_52_method_21_code 20 = .ok (.if_icmp .le 6, 3) := by decide +kernel
theorem d5_23 : decode jdk_52_method_21_code 23 = .ok (.iload 5, 2) := by decide +kernel
theorem d5_25 : decode jdk_52_method_21_code 25 = .ok (.ireturn, 1) := by decide +kernel
theorem d5_26 : decode jdk_52_method_21_code 26 = .ok (.aload_n 2, 1) := by decide +kernel
theorem d5_27 : decode jdk_52_method_21_code 27 = .ok (.iload_n 3, 1) := by decide +kernel
theorem d5_28 : decode jdk_52_method_21_code 28 = .ok (.iload 6, 2) := by decide +kernel
theorem d5_30 : decode jdk_52_method_21_code 30 = .ok (.i2b, 1) := by decide +kernel
theorem d5_31 : decode jdk_52_method_21_code 31 = .ok (.bastore, 1) := by decide +kernel
theorem d5_32 : decode jdk_52_method_21_code 32 = .ok (.iinc 1 1, 3) := by decide +kernel
theorem d5_35 : decode jdk_52_method_21_code 35 = .ok (.iinc 3 1, 3) := by decide +kernel
theorem d5_38 : decode jdk_52_method_21_code 38 = .ok (.iinc 5 1, 3) := by decide +kernel
theorem d5_41 : decode jdk_52_method_21_code 41 = .ok (.goto (-38), 3) := by decide +kernel
theorem d5_44 : decode jdk_52_method_21_code 44 = .ok (.iload 4, 2) := by decide +kernel
theorem d5_46 : decode jdk_52_method_21_code 46 = .ok (.ireturn, 1) := by decide +kernel
theorem pn5 : plainFor (⟨"java/lang/StringUTF16", "compress", "([CI[BII)I"⟩ : MethodName) = true := by first | exact plainFor_of_name (by first | (simp [plainName, overriddenIn]; done) | decide +kernel) | decide +kernel
theorem pd5 : parseMethodDescriptor "([CI[BII)I" = some ⟨[(.array .char), .int, (.array .byte), .int, .int], some .int⟩ := by decide +kernel
set_option maxRecDepth 65536 in
set_option maxHeartbeats 40000000 in
theorem c5_loop {W : Wk} {l : Launch} {Z : State} {a0' : Array Value} {R : Room} {Q : Option Value → Heap → Prop} (C : Walk W l Z a0' tables_1 "java/lang/StringUTF16" jdk_52_method_21_code 7 (some .int) "compress" R Q) {ck cs' : Nat} (hck : ck ≤ R.cells) (hcs : cs' ≤ R.slots) (src dst : Addr) (zd : Z.heap.size ≤ dst) (ne : src ≠ dst) (cs : List Int32) (hn : cs.length < 2 ^ 30) (hb : ∀ c ∈ cs, ¬ (255 : Int32) < c) :
    ∀ (rest pre : List Int32) (h : Heap) (s6 : Slot), cs = pre ++ rest → Al Z h src .char (iv' cs) → Al Z h dst .byte (iv' (pre.map by8) ++ List.replicate rest.length (.int 0)) → (s6 = .unset ∨ ∃ w : Value, s6 = .val w ∧ w.category = 1) →
      (∀ h' : Heap, Keep h h' [dst] → Al Z h' dst .byte (iv' (cs.map by8)) → Q (some (.int (Int32.ofNat cs.length))) h') → W h ck cs' 3 #[.val (.ref src), .val (.int (Int32.ofNat pre.length)), .val (.ref dst), .val (.int (Int32.ofNat pre.length)), .val (.int (Int32.ofNat cs.length)), .val (.int (Int32.ofNat pre.length)), s6] []
  | [], pre, h, s6, e, A, B, h6, K => by
    have e' : pre = cs := by rw [e, List.append_nil]
    subst e'
    show W h ck cs' 3 #[.val (.ref src), .val (.int (Int32.ofNat pre.length)), .val (.ref dst), .val (.int (Int32.ofNat pre.length)), .val (.int (Int32.ofNat pre.length)), .val (.int (Int32.ofNat pre.length)), s6] []
    have q : ¬ Int32.ofNat pre.length < Int32.ofNat pre.length := Int32.lt_irrefl
    refine C.iload 5 d5_3 rfl rfl ?_
    refine C.iload 7 d5_5 rfl rfl ?_
    refine C.icmpT 44 d5_7 rfl (flt q).2.1 ?_
    refine C.iload 46 d5_44 rfl rfl ?_
    exact C.retI .int d5_46 rfl (by simp) rfl hck hcs (K h (Keep.refl _ _) (by simpa using B))
  | c :: rest, pre, h, s6, e, A, B, h6, K => by
    have hlen : pre.length < cs.length := by rw [e, List.length_append, List.length_cons]; omega
    have q : Int32.ofNat pre.length < Int32.ofNat cs.length := (o_lt (by omega) (by omega)).mpr hlen
    have hc : ¬ (255 : Int32) < c := hb c (by rw [e]; simp)
    refine C.iload 5 d5_3 rfl rfl ?_
    refine C.iload 7 d5_5 rfl rfl ?_
    refine C.icmpF 10 d5_7 rfl (tlt q).2.1 ?_
    refine C.aloadN 11 d5_10 rfl rfl rfl ?_
    refine C.iloadN 12 d5_11 rfl rfl ?_
    refine C.caload 13 pre.length (.int c) d5_12 rfl A (o_nn (by omega)) (o_cl (by omega)) (by rw [e]; simp) ?_
    refine C.istore 15 #[.val (.ref src), .val (.int (Int32.ofNat pre.length)), .val (.ref dst), .val (.int (Int32.ofNat pre.length)), .val (.int (Int32.ofNat cs.length)), .val (.int (Int32.ofNat pre.length)), .val (.int c)] d5_13 rfl (XS.store1 rfl h6 rfl) ?_
    refine C.iload 17 d5_15 rfl rfl ?_
    refine C.sipush 20 (255 : Int32) d5_17 rfl rfl ?_
    refine C.icmpT 26 d5_20 rfl (flt hc).2.2.2 ?_
    refine C.aloadN 27 d5_26 rfl rfl rfl ?_
    refine C.iloadN 28 d5_27 rfl rfl ?_
    refine C.iload 30 d5_28 rfl rfl ?_
    refine C.i2b 31 d5_30 rfl ?_
    refine C.bastoreB 32 pre.length (by8 c) d5_31 rfl B zd (o_nn (by omega)) (o_cl (by omega)) (by simp) (by8_nar c) ?_
    intro h1 W1 B1
    refine C.iinc 35 #[.val (.ref src), .val (.int ((Int32.ofNat pre.length) + (1 : Int32))), .val (.ref dst), .val (.int (Int32.ofNat pre.length)), .val (.int (Int32.ofNat cs.length)), .val (.int (Int32.ofNat pre.length)), .val (.int c)] d5_32 rfl rfl rfl ?_
    refine C.iinc 38 #[.val (.ref src), .val (.int ((Int32.ofNat pre.length) + (1 : Int32))), .val (.ref dst), .val (.int ((Int32.ofNat pre.length) + (1 : Int32))), .val (.int (Int32.ofNat cs.length)), .val (.int (Int32.ofNat pre.length)), .val (.int c)] d5_35 rfl rfl rfl ?_
    refine C.iinc 41 #[.val (.ref src), .val (.int ((Int32.ofNat pre.length) + (1 : Int32))), .val (.ref dst), .val (.int ((Int32.ofNat pre.length) + (1 : Int32))), .val (.int (Int32.ofNat cs.length)), .val (.int ((Int32.ofNat pre.length) + (1 : Int32))), .val (.int c)] d5_38 rfl rfl rfl ?_
    have e1 : Int32.ofNat pre.length + (1 : Int32) = Int32.ofNat (pre ++ [c]).length := by rw [List.length_append]; exact o_add pre.length 1
    show W h1 ck cs' 41 #[.val (.ref src), .val (.int ((Int32.ofNat pre.length) + (1 : Int32))), .val (.ref dst), .val (.int ((Int32.ofNat pre.length) + (1 : Int32))), .val (.int (Int32.ofNat cs.length)), .val (.int ((Int32.ofNat pre.length) + (1 : Int32))), .val (.int c)] []
    rw [e1]
    refine C.goto 3 d5_41 rfl ?_
    refine c5_loop C hck hcs src dst zd ne cs hn hb rest (pre ++ [c]) h1 _ (by rw [e]; simp) (A.keep (Keep.of_wr W1) (ninS ne nin0)) ?_ (Or.inr ⟨_, rfl, rfl⟩) (fun h' K' B' => K h' ((Keep.of_wr W1).trans K' (fun x hx => Or.inl hx)) B')
    have e2 : (iv' (pre.map by8) ++ List.replicate (c :: rest).length (Value.int 0)).set pre.length (.int (by8 c)) = iv' ((pre ++ [c]).map by8) ++ List.replicate rest.length (.int 0) := by simp [List.replicate_succ]
    rw [e2] at B1
    exact B1
set_option maxRecDepth 65536 in
set_option maxHeartbeats 40000000 in
theorem c5 (l : Launch) (Z : State) (a0' : Array Value) (hw : ∀ d ∈ tables_1, d.before a0' Z = true) (h : Heap) (src dst : Addr) (zd : Z.heap.size ≤ dst) (ne : src ≠ dst) (cs : List Int32) (hn : cs.length < 2 ^ 30) (hb : ∀ c ∈ cs, ¬ (255 : Int32) < c) (A : Al Z h src .char (iv' cs)) (B : Al Z h dst .byte (List.replicate cs.length (.int 0))) :
    Con l Z (⟨"java/lang/StringUTF16", "compress", "([CI[BII)I"⟩ : MethodName) jdk_52_method_21_code 7 (some .int) ⟨0, 0, 0, 0⟩ #[.ref src, .int 0, .ref dst, .int 0, .int (Int32.ofNat cs.length)] h (fun v h' => v = some (.int (Int32.ofNat cs.length)) ∧ Keep h h' [dst] ∧ Al Z h' dst .byte (iv' (cs.map by8))) := by
  refine Con.of (Ls := #[.val (.ref src), .val (.int (0 : Int32)), .val (.ref dst), .val (.int (0 : Int32)), .val (.int (Int32.ofNat cs.length)), .unset, .unset]) hw pn5 (fun m => by first | (simp [entryFrame, mkF, argsToLocals, Value.category, maxLocals]; done) | rfl) fun W C => ?_
  refine C.kept fun hE => ?_
  have z0 : Z.heap.size ≤ h.size := hE.1
  refine C.iconst 1 (0 : Int32) d5_0 rfl rfl ?_
  refine C.istore 3 #[.val (.ref src), .val (.int (0 : Int32)), .val (.ref dst), .val (.int (0 : Int32)), .val (.int (Int32.ofNat cs.length)), .val (.int (0 : Int32)), .unset] d5_1 rfl rfl ?_
  exact c5_loop C (by decide) (by decide) src dst zd ne cs hn hb cs [] h _ rfl A B (Or.inl rfl) (fun h' K' B' => ⟨rfl, K', B'⟩)
theorem d4_0 : decode jdk_52_method_16_code 0 = .ok (.iload_n 2, 1) := by decide +kernel
theorem d4_1 : decode jdk_52_method_16_code 1 = .ok (.newarray .byte, 2) := by decide +kernel
theorem d4_3 : decode jdk_52_method_16_code 3 = .ok (.astore_n 3, 1) := by decide +kernel
theorem d4_4 : decode jdk_52_method_16_code 4 = .ok (.aload_n 0, 1) := by decide +kernel
theorem d4_5 : decode jdk_52_method_16_code 5 = .ok (.iload_n 1, 1) := by decide +kernel
theorem d4_6 : decode jdk_52_method_16_code 6 = .ok (.aload_n 3, 1) := by decide +kernel
theorem d4_7 : decode jdk_52_method_16_code 7 = .ok (.iconst 0, 1) := by decide +kernel
theorem d4_8 : decode jdk_52_method_16_code 8 = .ok (.iload_n 2, 1) := by decide +kernel
theorem d4_9 : decode jdk_52_method_16_code 9 = .ok (.invokestatic 115, 3) := by decide +kernel
theorem d4_12 : decode jdk_52_method_16_code 12 = .ok (.istore 4, 2) := by decide +kernel
theorem d4_14 : decode jdk_52_method_16_code 14 = .ok (.iload 4, 2) := by decide +kernel
theorem d4_16 : decode jdk_52_method_16_code 16 = .ok (.iload_n 2, 1) := by decide +kernel
theorem d4_17 : decode jdk_52_method_16_code 17 = .ok (.if_icmp .eq 40, 3) := by decide +kernel
theorem d4_20 : decode jdk_52_method_16_code 20 = .ok (.aload_n 0, 1) := by decide +kernel
theorem d4_21 : decode jdk_52_method_16_code 21 = .ok (.iload_n 1, 1) := by decide +kernel
theorem d4_22 : decode jdk_52_method_16_code 22 = .ok (.iload_n 2, 1) := by decide +kernel
theorem d4_23 : decode jdk_52_method_16_code 23 = .ok (.invokestatic 119, 3) := by decide +kernel
theorem d4_26 : decode jdk_52_method_16_code 26 = .ok (.astore 5, 2) := by decide +kernel
theorem d4_28 : decode jdk_52_method_16_code 28 = .ok (.aload 5, 2) := by decide +kernel
theorem d4_30 : decode jdk_52_method_16_code 30 = .ok (.iload 4, 2) := by decide +kernel
theorem d4_32 : decode jdk_52_method_16_code 32 = .ok (.invokestatic 71, 3) := by decide +kernel
theorem d4_35 : decode jdk_52_method_16_code 35 = .ok (.sipush 255, 3) := by decide +kernel
theorem d4_38 : decode jdk_52_method_16_code 38 = .ok (.if_icmp .gt 16, 3) := by decide +kernel
theorem d4_41 : decode jdk_52_method_16_code 41 = .ok (.aload 5, 2) := by decide +kernel
theorem d4_43 : decode jdk_52_method_16_code 43 = .ok (.iconst 0, 1) := by decide +kernel
theorem d4_44 : decode jdk_52_method_16_code 44 = .ok (.aload_n 3, 1) := by decide +kernel
theorem d4_45 : decode jdk_52_method_16_code 45 = .ok (.iconst 0, 1) := by decide +kernel
theorem d4_46 : decode jdk_52_method_16_code 46 = .ok (.iload_n 2, 1) := by decide +kernel
theorem d4_47 : decode jdk_52_method_16_code 47 = .ok (.invokestatic 123, 3) := by decide +kernel
theorem d4_50 : decode jdk_52_method_16_code 50 = .ok (.iload_n 2, 1) := by decide +kernel
theorem d4_51 : decode jdk_52_method_16_code 51 = .ok (.if_icmp .eq 6, 3) := by decide +kernel
theorem d4_54 : decode jdk_52_method_16_code 54 = .ok (.aload 5, 2) := by decide +kernel
theorem d4_56 : decode jdk_52_method_16_code 56 = .ok (.areturn, 1) := by decide +kernel
theorem d4_57 : decode jdk_52_method_16_code 57 = .ok (.aload_n 3, 1) := by decide +kernel
theorem d4_58 : decode jdk_52_method_16_code 58 = .ok (.areturn, 1) := by decide +kernel
theorem pn4 : plainFor (⟨"java/lang/StringUTF16", "compress", "([CII)[B"⟩ : MethodName) = true := by first | exact plainFor_of_name (by first | (simp [plainName, overriddenIn]; done) | decide +kernel) | decide +kernel
theorem pd4 : parseMethodDescriptor "([CII)[B" = some ⟨[(.array .char), .int, .int], some (.array .byte)⟩ := by decide +kernel
set_option maxRecDepth 65536 in
set_option maxHeartbeats 40000000 in
theorem c3 (l : Launch) (Z : State) (a0' : Array Value) (hw : ∀ d ∈ tables_1, d.before a0' Z = true) (h : Heap) (src : Addr) (cs : List Int32) (hn : cs.length ≤ 16) (hb : ∀ c ∈ cs, ¬ (255 : Int32) < c) (A : Al Z h src .char (iv' cs)) :
    Con l Z (⟨"java/lang/StringUTF16", "compress", "([CII)[B"⟩ : MethodName) jdk_52_method_16_code 6 (some (.array .byte)) ⟨1, 1, 16, 18⟩ #[.ref src, .int 0, .int (Int32.ofNat cs.length)] h (fun v h' => ∃ b, v = some (.ref b) ∧ h.size ≤ b ∧ Ext h h' ∧ Al Z h' b .byte (iv' (cs.map by8))) := by
  refine Con.of (Ls := #[.val (.ref src), .val (.int (0 : Int32)), .val (.int (Int32.ofNat cs.length)), .unset, .unset, .unset]) hw pn4 (fun m => by first | (simp [entryFrame, mkF, argsToLocals, Value.category, maxLocals]; done) | rfl) fun W C => ?_
  refine C.kept fun hE => ?_
  have z0 : Z.heap.size ≤ h.size := hE.1
  refine C.iloadN 1 d4_0 rfl rfl ?_
  refine C.newarray 3 16 d4_1 rfl (tw 26) (o_nn (by omega)) (by rw [o_cl (by omega)]; exact hn) (by decide) (by decide) (by decide) ?_
  intro h1 E1 B1
  rw [o_cl (by omega)] at B1
  obtain ⟨b, gb⟩ : ∃ z, z = h.size := ⟨_, rfl⟩
  rw [← gb] at B1 ⊢
  have zb : Z.heap.size ≤ b := by rw [gb]; exact z0
  have ne : src ≠ b := by rw [gb]; exact Nat.ne_of_lt A.lt
  show W h1 1 16 3 #[.val (.ref src), .val (.int (0 : Int32)), .val (.int (Int32.ofNat cs.length)), .unset, .unset, .unset] [.ref b]
  refine C.astoreN 4 #[.val (.ref src), .val (.int (0 : Int32)), .val (.int (Int32.ofNat cs.length)), .val (.ref b), .unset, .unset] d4_3 rfl rfl rfl ?_
  refine C.aloadN 5 d4_4 rfl rfl rfl ?_
  refine C.iloadN 6 d4_5 rfl rfl ?_
  refine C.aloadN 7 d4_6 rfl rfl rfl ?_
  refine C.iconst 8 (0 : Int32) d4_7 rfl rfl ?_
  refine C.iloadN 9 d4_8 rfl rfl ?_
  refine C.callS 12 (as := [.ref src, .int (0 : Int32), .ref b, .int (0 : Int32), .int (Int32.ofNat cs.length)]) (rest := []) (rm := ⟨0, 0, 0, 0⟩) 0 d4_9 rfl (tw 27) (tw 28) (tw 24) (tw 29) (by decide) (c5 l Z a0' hw h1 src b zb ne cs (by omega) hb (A.ext E1) B1) pd5 rfl rfl (Nat.le_of_eq rfl) (by decide) (by decide) (by decide) (by decide) rfl ?_
  rintro v h2 ⟨rfl, K2, B2⟩
  show W h2 1 16 12 #[.val (.ref src), .val (.int (0 : Int32)), .val (.int (Int32.ofNat cs.length)), .val (.ref b), .unset, .unset] [.int (Int32.ofNat cs.length)]
  refine C.istore 14 #[.val (.ref src), .val (.int (0 : Int32)), .val (.int (Int32.ofNat cs.length)), .val (.ref b), .val (.int (Int32.ofNat cs.length)), .unset] d4_12 rfl rfl ?_
  refine C.iload 16 d4_14 rfl rfl ?_
  refine C.iloadN 17 d4_16 rfl rfl ?_
  refine C.icmpT 57 d4_17 rfl (teq rfl).1 ?_
  refine C.aloadN 58 d4_57 rfl rfl rfl ?_
  have K : Keep h h2 [] := ((Keep.refl h []).ext E1).trans K2 (fun x hx => Or.inr (by cases List.mem_singleton.mp hx; exact Nat.le_of_eq gb.symm))
  have E : Ext h h2 := ⟨K.1, fun x c q => K.2.1 x c q nin0⟩
  exact C.retA (.array .byte) d4_58 rfl rfl rfl (by decide) (by decide) ⟨b, rfl, Nat.le_of_eq gb.symm, E, B2⟩
theorem d6_0 : decode jdk_52_method_15_code 0 = .ok (.iload_n 1, 1) := by decide +kernel
theorem d6_1 : decode jdk_52_method_15_code 1 = .ok (.aload_n 0, 1) := by decide +kernel
theorem d6_2 : decode jdk_52_method_15_code 2 = .ok (.arraylength, 1) := by decide +kernel
theorem d6_3 : decode jdk_52_method_15_code 3 = .ok (.isub, 1) := by decide +kernel
theorem d6_4 : decode jdk_52_method_15_code 4 = .ok (.bipush 31, 2) := by decide +kernel
theorem d6_6 : decode jdk_52_method_15_code 6 = .ok (.iushr, 1) := by decide +kernel
theorem d6_7 : decode jdk_52_method_15_code 7 = .ok (.i2b, 1) := by decide +kernel
theorem d6_8 : decode jdk_52_method_15_code 8 = .ok (.ireturn, 1) := by decide +kernel
theorem pn6 : plainFor (⟨"java/lang/StringUTF16", "coderFromArrayLen", "([BI)B"⟩ : MethodName) = true := by first | exact plainFor_of_name (by first | (simp [plainName, overriddenIn]; done) | decide +kernel) | decide +kernel
theorem pd6 : parseMethodDescriptor "([BI)B" = some ⟨[(.array .byte), .int], some .byte⟩ := by decide +kernel
set_option maxRecDepth 65536 in
set_option maxHeartbeats 40000000 in
theorem cfa (l : Launch) (Z : State) (a0' : Array Value) (hw : ∀ d ∈ tables_1, d.before a0' Z = true) (h : Heap) (b : Addr) (bs : List Int32) (B : Al Z h b .byte (iv' bs)) :
    Con l Z (⟨"java/lang/StringUTF16", "coderFromArrayLen", "([BI)B"⟩ : MethodName) jdk_52_method_15_code 2 (some .byte) ⟨0, 0, 0, 0⟩ #[.ref b, .int (Int32.ofNat bs.length)] h (Same (some (.int 0)) h) := by
  refine Con.of (Ls := #[.val (.ref b), .val (.int (Int32.ofNat bs.length))]) hw pn6 (fun m => by first | (simp [entryFrame, mkF, argsToLocals, Value.category, maxLocals]; done) | rfl) fun W C => ?_
  refine C.kept fun hE => ?_
  have z0 : Z.heap.size ≤ h.size := hE.1
  refine C.iloadN 1 d6_0 rfl rfl ?_
  refine C.aloadN 2 d6_1 rfl rfl rfl ?_
  refine C.arraylength 3 (Int32.ofNat bs.length) d6_2 rfl B (by simp) ?_
  refine C.isub 4 d6_3 rfl ?_
  rw [Int32.sub_self]
  refine C.bipush 6 (31 : Int32) d6_4 rfl rfl ?_
  refine C.iushr 7 d6_6 rfl ?_
  refine C.i2b 8 d6_7 rfl ?_
  show W h 0 0 8 #[.val (.ref b), .val (.int (Int32.ofNat bs.length))] [.int (0 : Int32)]
  exact C.retI .byte d6_8 rfl (by simp) rfl (by decide) (by decide) ⟨rfl, rfl⟩
theorem d2_0 : decode jdk_42_method_149_code 0 = .ok (.aload_n 0, 1) := by decide +kernel
theorem d2_1 : decode jdk_42_method_149_code 1 = .ok (.invokespecial 1, 3) := by decide +kernel
theorem d2_4 : decode jdk_42_method_149_code 4 = .ok (.iload_n 3, 1) := by decide +kernel
theorem d2_5 : decode jdk_42_method_149_code 5 = .ok (.ifCond .ne 22, 3) := by decide +kernel
theorem d2_8 : decode jdk_42_method_149_code 8 = .ok (.aload_n 0, 1) := by decide +kernel
theorem d2_9 : decode jdk_42_method_149_code 9 = .ok (.ldc 7, 2) := by decide +kernel
theorem d2_11 : decode jdk_42_method_149_code 11 = .ok (.getfield 9, 3) := by decide +kernel
theorem d2_14 : decode jdk_42_method_149_code 14 = .ok (.putfield 9, 3) := by decide +kernel
theorem d2_17 : decode jdk_42_method_149_code 17 = .ok (.aload_n 0, 1) := by decide +kernel
theorem d2_18 : decode jdk_42_method_149_code 18 = .ok (.ldc 7, 2) := by decide +kernel
theorem d2_20 : decode jdk_42_method_149_code 20 = .ok (.getfield 15, 3) := by decide +kernel
theorem d2_23 : decode jdk_42_method_149_code 23 = .ok (.putfield 15, 3) := by decide +kernel
theorem d2_26 : decode jdk_42_method_149_code 26 = .ok (.return_, 1) := by decide +kernel
theorem d2_27 : decode jdk_42_method_149_code 27 = .ok (.getstatic 38, 3) := by decide +kernel
theorem d2_30 : decode jdk_42_method_149_code 30 = .ok (.ifCond .eq 28, 3) := by decide +kernel
theorem d2_33 : decode jdk_42_method_149_code 33 = .ok (.aload_n 1, 1) := by decide +kernel
theorem d2_34 : decode jdk_42_method_149_code 34 = .ok (.iload_n 2, 1) := by decide +kernel
theorem d2_35 : decode jdk_42_method_149_code 35 = .ok (.iload_n 3, 1) := by decide +kernel
theorem d2_36 : decode jdk_42_method_149_code 36 = .ok (.invokestatic 177, 3) := by decide +kernel
theorem d2_39 : decode jdk_42_method_149_code 39 = .ok (.astore 5, 2) := by decide +kernel
theorem d2_41 : decode jdk_42_method_149_code 41 = .ok (.aload_n 0, 1) := by decide +kernel
theorem d2_42 : decode jdk_42_method_149_code 42 = .ok (.aload 5, 2) := by decide +kernel
theorem d2_44 : decode jdk_42_method_149_code 44 = .ok (.iload_n 3, 1) := by decide +kernel
theorem d2_45 : decode jdk_42_method_149_code 45 = .ok (.invokestatic 47, 3) := by decide +kernel
theorem d2_48 : decode jdk_42_method_149_code 48 = .ok (.putfield 15, 3) := by decide +kernel
theorem d2_51 : decode jdk_42_method_149_code 51 = .ok (.aload_n 0, 1) := by decide +kernel
theorem d2_52 : decode jdk_42_method_149_code 52 = .ok (.aload 5, 2) := by decide +kernel
theorem d2_54 : decode jdk_42_method_149_code 54 = .ok (.putfield 9, 3) := by decide +kernel
theorem d2_57 : decode jdk_42_method_149_code 57 = .ok (.return_, 1) := by decide +kernel
theorem d2_58 : decode jdk_42_method_149_code 58 = .ok (.aload_n 0, 1) := by decide +kernel
theorem d2_59 : decode jdk_42_method_149_code 59 = .ok (.iconst 1, 1) := by decide +kernel
theorem d2_60 : decode jdk_42_method_149_code 60 = .ok (.putfield 15, 3) := by decide +kernel
theorem d2_63 : decode jdk_42_method_149_code 63 = .ok (.aload_n 0, 1) := by decide +kernel
theorem d2_64 : decode jdk_42_method_149_code 64 = .ok (.aload_n 1, 1) := by decide +kernel
theorem d2_65 : decode jdk_42_method_149_code 65 = .ok (.iload_n 2, 1) := by decide +kernel
theorem d2_66 : decode jdk_42_method_149_code 66 = .ok (.iload_n 3, 1) := by decide +kernel
theorem d2_67 : decode jdk_42_method_149_code 67 = .ok (.invokestatic 180, 3) := by decide +kernel
theorem d2_70 : decode jdk_42_method_149_code 70 = .ok (.putfield 9, 3) := by decide +kernel
theorem d2_73 : decode jdk_42_method_149_code 73 = .ok (.return_, 1) := by decide +kernel
theorem pn2 : plainFor (⟨"java/lang/String", "<init>", "([CIILjava/lang/Void;)V"⟩ : MethodName) = true := by first | exact plainFor_of_name (by first | (simp [plainName, overriddenIn]; done) | decide +kernel) | decide +kernel
theorem pd2 : parseMethodDescriptor "([CIILjava/lang/Void;)V" = some ⟨[(.array .char), .int, .int, (.object "java/lang/Void")], none⟩ := by decide +kernel
set_option maxRecDepth 65536 in
set_option maxHeartbeats 40000000 in
theorem si4 (l : Launch) (Z : State) (a0' : Array Value) (hw : ∀ d ∈ tables_1, d.before a0' Z = true) (h : Heap) (a src : Addr) (za : Z.heap.size ≤ a) (cpt : Int32) (SCP : Sta Z Z.heap "java/lang/String" "COMPACT_STRINGS" "Z" (.int cpt)) (hcp : ¬ cpt = 0) (cs : List Int32) (hn : cs.length ≤ 16) (h0 : cs.length ≠ 0) (hb : ∀ c ∈ cs, ¬ (255 : Int32) < c) (E : Exa Z h a "java/lang/String") (FV : Fld Z h a "java/lang/String" "value" "[B" .null) (FC : Fld Z h a "java/lang/String" "coder" "B" (.int 0)) (A : Al Z h src .char (iv' cs)) :
    Con l Z (⟨"java/lang/String", "<init>", "([CIILjava/lang/Void;)V"⟩ : MethodName) jdk_42_method_149_code 6 none ⟨2, 1, 16, 35⟩ #[.ref a, .ref src, .int 0, .int (Int32.ofNat cs.length), .null] h (fun v h' => ∃ b, v = none ∧ h.size ≤ b ∧ Keep h h' [a] ∧ StrL Z h' a b (cs.map by8)) := by
  refine Con.of (Ls := #[.val (.ref a), .val (.ref src), .val (.int (0 : Int32)), .val (.int (Int32.ofNat cs.length)), .val (.null), .unset]) hw pn2 (fun m => by first | (simp [entryFrame, mkF, argsToLocals, Value.category, maxLocals]; done) | rfl) fun W C => ?_
  refine C.kept fun hE => ?_
  have z0 : Z.heap.size ≤ h.size := hE.1
  refine C.aloadN 1 d2_0 rfl rfl rfl ?_
  refine C.initObj 4 0 d2_1 rfl (tw 18) (tw 19) (tw 20) rfl (by decide) (Nat.le_of_eq rfl) (by decide) ?_
  refine C.iloadN 5 d2_4 rfl rfl ?_
  refine C.ifT 27 d2_5 rfl ((if0 _ _).trans (feq (o_ne (by omega) h0)).2) ?_
  refine C.getstatic 30 d2_27 rfl (tw 21) SCP ?_
  refine C.ifF 33 d2_30 rfl ((if0 _ _).trans (feq hcp).1) ?_
  refine C.aloadN 34 d2_33 rfl rfl rfl ?_
  refine C.iloadN 35 d2_34 rfl rfl ?_
  refine C.iloadN 36 d2_35 rfl rfl ?_
  refine C.callS 39 (as := [.ref src, .int (0 : Int32), .int (Int32.ofNat cs.length)]) (rest := []) (rm := ⟨1, 1, 16, 18⟩) 0 d2_36 rfl (tw 22) (tw 23) (tw 24) (tw 25) (by decide) (c3 l Z a0' hw h src cs hn hb A) pd4 rfl rfl (Nat.le_of_eq rfl) (by decide) (by decide) (by decide) (by decide) rfl ?_
  rintro v h1 ⟨b, rfl, gb, E1, B1⟩
  have z1 : Z.heap.size ≤ h1.size := Nat.le_trans z0 E1.1
  have nab : a ≠ b := Nat.ne_of_lt (Nat.lt_of_lt_of_le E.lt gb)
  show W h1 1 16 39 #[.val (.ref a), .val (.ref src), .val (.int (0 : Int32)), .val (.int (Int32.ofNat cs.length)), .val (.null), .unset] [.ref b]
  refine C.astore 41 #[.val (.ref a), .val (.ref src), .val (.int (0 : Int32)), .val (.int (Int32.ofNat cs.length)), .val (.null), .val (.ref b)] d2_39 rfl rfl rfl ?_
  refine C.aloadN 42 d2_41 rfl rfl rfl ?_
  refine C.aload 44 d2_42 rfl rfl rfl ?_
  refine C.iloadN 45 d2_44 rfl rfl ?_
  have el : Int32.ofNat cs.length = Int32.ofNat (cs.map by8).length := by rw [List.length_map]
  rw [el]
  refine C.callS 48 (as := [.ref b, .int (Int32.ofNat (cs.map by8).length)]) (rest := [.ref a]) (rm := ⟨0, 0, 0, 0⟩) 1 d2_45 rfl (tw 30) (tw 31) (tw 24) (tw 32) (by decide) (cfa l Z a0' hw h1 b _ B1) pd6 rfl rfl (Nat.le_of_eq rfl) (by decide) (by decide) (by decide) (by decide) rfl ?_
  refine same_intro ?_
  show W h1 1 16 48 #[.val (.ref a), .val (.ref src), .val (.int (0 : Int32)), .val (.int (Int32.ofNat (cs.map by8).length)), .val (.null), .val (.ref b)] [.int (0 : Int32), .ref a]
  have FC1 := FC.ext E1
  have FV1 := FV.ext E1
  have X1 := E.ext E1
  refine C.putfield 51 (v' := .int (0 : Int32)) .byte d2_48 rfl (tw 33) Via.refl FC1 X1 (Or.inr ⟨(tw 34), rfl, rfl⟩) (tw 9) (by decide) rfl rfl za ?_
  intro h2 W2
  have z2 : Z.heap.size ≤ h2.size := by rw [W2.size]; exact z1
  refine C.aloadN 52 d2_51 rfl rfl rfl ?_
  refine C.aload 54 d2_52 rfl rfl rfl ?_
  have FV2 := FV1.other W2 (Or.inr (slot_ne (Or.inr (hw _ (tw 36))) (Or.inr (hw _ (tw 34))) (by decide) (t := (.array .byte)) (t' := .byte) (by decide) (by decide)))
  refine C.putfield 57 (v' := .ref b) (.array .byte) d2_54 rfl (tw 35) Via.refl FV2 (X1.wr W2) (Or.inr ⟨(tw 36), rfl, rfl⟩) (tw 9) (by decide) rfl rfl za ?_
  intro h3 W3
  have z3 : Z.heap.size ≤ h3.size := by rw [W3.size]; exact z2
  have FC3 := (FC1.same W2).other W3 (Or.inr (slot_ne (Or.inr (hw _ (tw 34))) (Or.inr (hw _ (tw 36))) (by decide) (t := .byte) (t' := (.array .byte)) (by decide) (by decide)))
  have B3 := (B1.keep (Keep.of_wr W2) (ninS nab.symm nin0)).keep (Keep.of_wr W3) (ninS nab.symm nin0)
  exact C.ret0 d2_57 rfl (by decide) (by decide) ⟨b, rfl, gb, (((Keep.refl h [a]).ext E1).wr W2 (Or.inl (List.mem_of_getElem? (i := 0) rfl))).wr W3 (Or.inl (List.mem_of_getElem? (i := 0) rfl)), (X1.wr W2).wr W3, FV2.same W3, FC3, B3⟩
theorem d1_0 : decode jdk_42_method_3_code 0 = .ok (.aload_n 0, 1) := by decide +kernel
theorem d1_1 : decode jdk_42_method_3_code 1 = .ok (.aload_n 1, 1) := by decide +kernel
theorem d1_2 : decode jdk_42_method_3_code 2 = .ok (.iconst 0, 1) := by decide +kernel
theorem d1_3 : decode jdk_42_method_3_code 3 = .ok (.aload_n 1, 1) := by decide +kernel
theorem d1_4 : decode jdk_42_method_3_code 4 = .ok (.arraylength, 1) := by decide +kernel
theorem d1_5 : decode jdk_42_method_3_code 5 = .ok (.aconst_null, 1) := by decide +kernel
theorem d1_6 : decode jdk_42_method_3_code 6 = .ok (.invokespecial 27, 3) := by decide +kernel
theorem d1_9 : decode jdk_42_method_3_code 9 = .ok (.return_, 1) := by decide +kernel
theorem pn1 : plainFor (⟨"java/lang/String", "<init>", "([C)V"⟩ : MethodName) = true := by first | exact plainFor_of_name (by first | (simp [plainName, overriddenIn]; done) | decide +kernel) | decide +kernel
theorem pd1 : parseMethodDescriptor "([C)V" = some ⟨[(.array .char)], none⟩ := by decide +kernel
set_option maxRecDepth 65536 in
set_option maxHeartbeats 40000000 in
theorem si1 (l : Launch) (Z : State) (a0' : Array Value) (hw : ∀ d ∈ tables_1, d.before a0' Z = true) (h : Heap) (a src : Addr) (za : Z.heap.size ≤ a) (cpt : Int32) (SCP : Sta Z Z.heap "java/lang/String" "COMPACT_STRINGS" "Z" (.int cpt)) (hcp : ¬ cpt = 0) (cs : List Int32) (hn : cs.length ≤ 16) (h0 : cs.length ≠ 0) (hb : ∀ c ∈ cs, ¬ (255 : Int32) < c) (E : Exa Z h a "java/lang/String") (FV : Fld Z h a "java/lang/String" "value" "[B" .null) (FC : Fld Z h a "java/lang/String" "coder" "B" (.int 0)) (A : Al Z h src .char (iv' cs)) :
    Con l Z (⟨"java/lang/String", "<init>", "([C)V"⟩ : MethodName) jdk_42_method_3_code 2 none ⟨3, 1, 16, 52⟩ #[.ref a, .ref src] h (fun v h' => ∃ b, v = none ∧ h.size ≤ b ∧ Keep h h' [a] ∧ StrL Z h' a b (cs.map by8)) := by
  refine Con.of (Ls := #[.val (.ref a), .val (.ref src)]) hw pn1 (fun m => by first | (simp [entryFrame, mkF, argsToLocals, Value.category, maxLocals]; done) | rfl) fun W C => ?_
  refine C.kept fun hE => ?_
  have z0 : Z.heap.size ≤ h.size := hE.1
  refine C.aloadN 1 d1_0 rfl rfl rfl ?_
  refine C.aloadN 2 d1_1 rfl rfl rfl ?_
  refine C.iconst 3 (0 : Int32) d1_2 rfl rfl ?_
  refine C.aloadN 4 d1_3 rfl rfl rfl ?_
  refine C.arraylength 5 (Int32.ofNat cs.length) d1_4 rfl A (by simp) ?_
  refine C.aconstNull 6 d1_5 rfl ?_
  refine C.callI 9 (a := a) (as := [.ref src, .int (0 : Int32), .int (Int32.ofNat cs.length), .null]) (rest := []) (rm := ⟨2, 1, 16, 35⟩) 0 d1_6 rfl rfl rfl (tw 14) (tw 15) (tw 10) (tw 17) (by decide) (si4 l Z a0' hw h a src za cpt SCP hcp cs hn h0 hb E FV FC A) pd2 rfl rfl (Nat.le_of_eq rfl) (by decide) (by decide) (by decide) (by decide) rfl ?_
  rintro v h1 ⟨b, rfl, gb, K1, S1⟩
  show W h1 1 16 9 #[.val (.ref a), .val (.ref src)] []
  exact C.ret0 d1_9 rfl (by decide) (by decide) ⟨b, rfl, gb, K1, S1⟩
theorem d10_0 : decode jdk_43_method_13_code 0 = .ok (.aload_n 0, 1) := by decide +kernel
theorem d10_1 : decode jdk_43_method_13_code 1 = .ok (.arraylength, 1) := by decide +kernel
theorem d10_2 : decode jdk_43_method_13_code 2 = .ok (.aload_n 1, 1) := by decide +kernel
theorem d10_3 : decode jdk_43_method_13_code 3 = .ok (.arraylength, 1) := by decide +kernel
theorem d10_4 : decode jdk_43_method_13_code 4 = .ok (.if_icmp .ne 30, 3) := by decide +kernel
theorem d10_7 : decode jdk_43_method_13_code 7 = .ok (.iconst 0, 1) := by decide +kernel
theorem d10_8 : decode jdk_43_method_13_code 8 = .ok (.istore_n 2, 1) := by decide +kernel
theorem d10_9 : decode jdk_43_method_13_code 9 = .ok (.iload_n 2, 1) := by decide +kernel
theorem d10_10 : decode jdk_43_method_13_code 10 = .ok (.aload_n 0, 1) := by decide +kernel
theorem d10_11 : decode jdk_43_method_13_code 11 = .ok (.arraylength, 1) := by decide +kernel
theorem d10_12 : decode jdk_43_method_13_code 12 = .ok (.if_icmp .ge 20, 3) := by decide +kernel
theorem d10_15 : decode jdk_43_method_13_code 15 = .ok (.aload_n 0, 1) := by decide +kernel
theorem d10_16 : decode jdk_43_method_13_code 16 = .ok (.iload_n 2, 1) := by decide +kernel
theorem d10_17 : decode jdk_43_method_13_code 17 = .ok (.baload, 1) := by decide +kernel
theorem d10_18 : decode jdk_43_method_13_code 18 = .ok (.aload_n 1, 1) := by decide +kernel
theorem d10_19 : decode jdk_43_method_13_code 19 = .ok (.iload_n 2, 1) := by decide +kernel
theorem d10_20 : decode jdk_43_method_13_code 20 = .ok (.baload, 1) := by decide +kernel
theorem d10_21 : decode jdk_43_method_13_code 21 = .ok (.if_icmp .eq 5, 3) := by decide +kernel
theorem d10_24 : decode jdk_43_method_13_code 24 = .ok (.iconst 0, 1) := by decide +kernel
theorem d10_25 : decode jdk_43_method_13_code 25 = .ok (.ireturn, 1) := by decide +kernel
theorem d10_26 : decode jdk_43_method_13_code 26 = .ok (.iinc 2 1, 3) := by decide +kernel
theorem d10_29 : decode jdk_43_method_13_code 29 = .ok (.goto (-20), 3) := by decide +kernel
theorem d10_32 : decode jdk_43_method_13_code 32 = .ok (.iconst 1, 1) := by decide +kernel
theorem d10_33 : decode jdk_43_method_13_code 33 = .ok (.ireturn, 1) := by decide +kernel
theorem d10_34 : decode jdk_43_method_13_code 34 = .ok (.iconst 0, 1) := by decide +kernel
theorem d10_35 : decode jdk_43_method_13_code 35 = .ok (.ireturn, 1) := by decide +kernel
theorem pn10 : plainFor (⟨"java/lang/StringLatin1", "equals", "([B[B)Z"⟩ : MethodName) = true := by first | exact plainFor_of_name (by first | (simp [plainName, overriddenIn]; done) | decide +kernel) | decide +kernel
theorem pd10 : parseMethodDescriptor "([B[B)Z" = some ⟨[(.array .byte), (.array .byte)], some .boolean⟩ := by decide +kernel
set_option maxRecDepth 65536 in
set_option maxHeartbeats 40000000 in
theorem eqL_loop {W : Wk} {l : Launch} {Z : State} {a0' : Array Value} {R : Room} {Q : Option Value → Heap → Prop} (C : Walk W l Z a0' tables_1 "java/lang/StringLatin1" jdk_43_method_13_code 3 (some .boolean) "equals" R Q) {ck cs' : Nat} (hck : ck ≤ R.cells) (hcs : cs' ≤ R.slots) (x y : Addr) (h : Heap) (xs ys : List Int32) (hn : xs.length < 2 ^ 30) (A : Al Z h x .byte (iv' xs)) (B : Al Z h y .byte (iv' ys)) :
    ∀ (r1 r2 pre : List Int32), xs = pre ++ r1 → ys = pre ++ r2 → r1.length = r2.length → (r1 = r2 → Q (some (.int 1)) h) → (¬ r1 = r2 → Q (some (.int 0)) h) → W h ck cs' 9 #[.val (.ref x), .val (.ref y), .val (.int (Int32.ofNat pre.length))] []
  | [], r2, pre, e1, e2, hl, K1, K0 => by
    have e2' : r2 = [] := List.length_eq_zero_iff.mp hl.symm
    have el : pre.length = xs.length := by rw [e1, List.append_nil]
    have q : ¬ Int32.ofNat pre.length < Int32.ofNat xs.length := by rw [el]; exact Int32.lt_irrefl
    refine C.iloadN 10 d10_9 rfl rfl ?_
    refine C.aloadN 11 d10_10 rfl rfl rfl ?_
    refine C.arraylength 12 (Int32.ofNat xs.length) d10_11 rfl A (by simp) ?_
    refine C.icmpT 32 d10_12 rfl (flt q).2.1 ?_
    refine C.iconst 33 (1 : Int32) d10_32 rfl rfl ?_
    exact C.retI .boolean d10_33 rfl (by simp) rfl hck hcs (K1 e2'.symm)
  | a :: r1, [], pre, e1, e2, hl, K1, K0 => by simp at hl
  | a :: r1, b :: r2, pre, e1, e2, hl, K1, K0 => by
    have hlen : pre.length < xs.length := by rw [e1, List.length_append, List.length_cons]; omega
    have q : Int32.ofNat pre.length < Int32.ofNat xs.length := (o_lt (by omega) (by omega)).mpr hlen
    refine C.iloadN 10 d10_9 rfl rfl ?_
    refine C.aloadN 11 d10_10 rfl rfl rfl ?_
    refine C.arraylength 12 (Int32.ofNat xs.length) d10_11 rfl A (by simp) ?_
    refine C.icmpF 15 d10_12 rfl (tlt q).2.1 ?_
    refine C.aloadN 16 d10_15 rfl rfl rfl ?_
    refine C.iloadN 17 d10_16 rfl rfl ?_
    refine C.baloadB 18 pre.length (.int a) d10_17 rfl A (o_nn (by omega)) (o_cl (by omega)) (by rw [e1]; simp) ?_
    refine C.aloadN 19 d10_18 rfl rfl rfl ?_
    refine C.iloadN 20 d10_19 rfl rfl ?_
    refine C.baloadB 21 pre.length (.int b) d10_20 rfl B (o_nn (by omega)) (o_cl (by omega)) (by rw [e2]; simp) ?_
    by_cases hc : a = b
    · refine C.icmpT 26 d10_21 rfl (teq hc).1 ?_
      refine C.iinc 29 #[.val (.ref x), .val (.ref y), .val (.int ((Int32.ofNat pre.length) + (1 : Int32)))] d10_26 rfl rfl rfl ?_
      have e3 : Int32.ofNat pre.length + (1 : Int32) = Int32.ofNat (pre ++ [a]).length := by rw [List.length_append]; exact o_add pre.length 1
      show W h ck cs' 29 #[.val (.ref x), .val (.ref y), .val (.int ((Int32.ofNat pre.length) + (1 : Int32)))] []
      rw [e3]
      refine C.goto 9 d10_29 rfl ?_
      exact eqL_loop C hck hcs x y h xs ys hn A B r1 r2 (pre ++ [a]) (by rw [e1]; simp) (by rw [e2, hc]; simp) (by simpa using hl) (fun z => K1 (by rw [z, hc])) (fun z => K0 (fun w => z (List.cons.inj w).2))
    · refine C.icmpF 24 d10_21 rfl (feq hc).1 ?_
      refine C.iconst 25 (0 : Int32) d10_24 rfl rfl ?_
      exact C.retI .boolean d10_25 rfl (by simp) rfl hck hcs (K0 (fun w => hc (List.cons.inj w).1))
set_option maxRecDepth 65536 in
set_option maxHeartbeats 40000000 in
theorem eqL (l : Launch) (Z : State) (a0' : Array Value) (hw : ∀ d ∈ tables_1, d.before a0' Z = true) (h : Heap) (x y : Addr) (xs ys : List Int32) (hn : xs.length < 2 ^ 30) (hm : ys.length < 2 ^ 30) (A : Al Z h x .byte (iv' xs)) (B : Al Z h y .byte (iv' ys)) (r : Int32) (hr : r = if xs = ys then 1 else 0) :
    Con l Z (⟨"java/lang/StringLatin1", "equals", "([B[B)Z"⟩ : MethodName) jdk_43_method_13_code 3 (some .boolean) ⟨0, 0, 0, 0⟩ #[.ref x, .ref y] h (Same (some (.int r)) h) := by
  refine Con.of (Ls := #[.val (.ref x), .val (.ref y), .unset]) hw pn10 (fun m => by first | (simp [entryFrame, mkF, argsToLocals, Value.category, maxLocals]; done) | rfl) fun W C => ?_
  refine C.kept fun hE => ?_
  have z0 : Z.heap.size ≤ h.size := hE.1
  refine C.aloadN 1 d10_0 rfl rfl rfl ?_
  refine C.arraylength 2 (Int32.ofNat xs.length) d10_1 rfl A (by simp) ?_
  refine C.aloadN 3 d10_2 rfl rfl rfl ?_
  refine C.arraylength 4 (Int32.ofNat ys.length) d10_3 rfl B (by simp) ?_
  by_cases hl : xs.length = ys.length
  · have q : Int32.ofNat xs.length = Int32.ofNat ys.length := by rw [hl]
    refine C.icmpF 7 d10_4 rfl (teq q).2 ?_
    refine C.iconst 8 (0 : Int32) d10_7 rfl rfl ?_
    refine C.istoreN 9 #[.val (.ref x), .val (.ref y), .val (.int (0 : Int32))] d10_8 rfl rfl ?_
    exact eqL_loop C (by decide) (by decide) x y h xs ys hn A B xs ys [] rfl rfl hl (fun z => ⟨by rw [hr, if_pos z], rfl⟩) (fun z => ⟨by rw [hr, if_neg z], rfl⟩)
  · have q : ¬ Int32.ofNat xs.length = Int32.ofNat ys.length := fun z => hl (o_inj (by omega) (by omega) z)
    refine C.icmpT 34 d10_4 rfl (feq q).2 ?_
    refine C.iconst 35 (0 : Int32) d10_34 rfl rfl ?_
    exact C.retI .boolean d10_35 rfl (by simp) rfl (by decide) (by decide) ⟨by rw [hr, if_neg (fun z => hl (by rw [z]))], rfl⟩
theorem d9_0 : decode jdk_42_method_66_code 0 = .ok (.aload_n 0, 1) := by decide +kernel
theorem d9_1 : decode jdk_42_method_66_code 1 = .ok (.aload_n 1, 1) := by decide +kernel
theorem d9_2 : decode jdk_42_method_66_code 2 = .ok (.if_acmp .ne 5, 3) := by decide +kernel
theorem d9_5 : decode jdk_42_method_66_code 5 = .ok (.iconst 1, 1) := by decide +kernel
theorem d9_6 : decode jdk_42_method_66_code 6 = .ok (.ireturn, 1) := by decide +kernel
theorem d9_7 : decode jdk_42_method_66_code 7 = .ok (.aload_n 1, 1) := by decide +kernel
theorem d9_8 : decode jdk_42_method_66_code 8 = .ok (.instanceof 10, 3) := by decide +kernel
theorem d9_11 : decode jdk_42_method_66_code 11 = .ok (.ifCond .eq 43, 3) := by decide +kernel
theorem d9_14 : decode jdk_42_method_66_code 14 = .ok (.aload_n 1, 1) := by decide +kernel
theorem d9_15 : decode jdk_42_method_66_code 15 = .ok (.checkcast 10, 3) := by decide +kernel
theorem d9_18 : decode jdk_42_method_66_code 18 = .ok (.astore_n 2, 1) := by decide +kernel
theorem d9_19 : decode jdk_42_method_66_code 19 = .ok (.getstatic 38, 3) := by decide +kernel
theorem d9_22 : decode jdk_42_method_66_code 22 = .ok (.ifCond .eq 14, 3) := by decide +kernel
theorem d9_25 : decode jdk_42_method_66_code 25 = .ok (.aload_n 0, 1) := by decide +kernel
theorem d9_26 : decode jdk_42_method_66_code 26 = .ok (.getfield 15, 3) := by decide +kernel
theorem d9_29 : decode jdk_42_method_66_code 29 = .ok (.aload_n 2, 1) := by decide +kernel
theorem d9_30 : decode jdk_42_method_66_code 30 = .ok (.getfield 15, 3) := by decide +kernel
theorem d9_33 : decode jdk_42_method_66_code 33 = .ok (.if_icmp .ne 21, 3) := by decide +kernel
theorem d9_36 : decode jdk_42_method_66_code 36 = .ok (.aload_n 0, 1) := by decide +kernel
theorem d9_37 : decode jdk_42_method_66_code 37 = .ok (.getfield 9, 3) := by decide +kernel
theorem d9_40 : decode jdk_42_method_66_code 40 = .ok (.aload_n 2, 1) := by decide +kernel
theorem d9_41 : decode jdk_42_method_66_code 41 = .ok (.getfield 9, 3) := by decide +kernel
theorem d9_44 : decode jdk_42_method_66_code 44 = .ok (.invokestatic 541, 3) := by decide +kernel
theorem d9_47 : decode jdk_42_method_66_code 47 = .ok (.ifCond .eq 7, 3) := by decide +kernel
theorem d9_50 : decode jdk_42_method_66_code 50 = .ok (.iconst 1, 1) := by decide +kernel
theorem d9_51 : decode jdk_42_method_66_code 51 = .ok (.goto 4, 3) := by decide +kernel
theorem d9_54 : decode jdk_42_method_66_code 54 = .ok (.iconst 0, 1) := by decide +kernel
theorem d9_55 : decode jdk_42_method_66_code 55 = .ok (.ireturn, 1) := by decide +kernel
theorem pn9 : plainFor (⟨"java/lang/String", "equals", "(Ljava/lang/Object;)Z"⟩ : MethodName) = true := by first | exact plainFor_of_name (by first | (simp [plainName, overriddenIn]; done) | decide +kernel) | decide +kernel
theorem pd9 : parseMethodDescriptor "(Ljava/lang/Object;)Z" = some ⟨[(.object "java/lang/Object")], some .boolean⟩ := by decide +kernel
set_option maxRecDepth 65536 in
set_option maxHeartbeats 40000000 in
theorem seq (l : Launch) (Z : State) (a0' : Array Value) (hw : ∀ d ∈ tables_1, d.before a0' Z = true) (h : Heap) (a b va vb : Addr) (ne : ¬ a = b) (cpt : Int32) (SCP : Sta Z Z.heap "java/lang/String" "COMPACT_STRINGS" "Z" (.int cpt)) (hcp : ¬ cpt = 0) (xs ys : List Int32) (hn : xs.length < 2 ^ 30) (hm : ys.length < 2 ^ 30) (A : StrL Z h a va xs) (B : StrL Z h b vb ys) (r : Int32) (hr : r = if xs = ys then 1 else 0) :
    Con l Z (⟨"java/lang/String", "equals", "(Ljava/lang/Object;)Z"⟩ : MethodName) jdk_42_method_66_code 3 (some .boolean) ⟨1, 0, 0, 14⟩ #[.ref a, .ref b] h (Same (some (.int r)) h) := by
  refine Con.of (Ls := #[.val (.ref a), .val (.ref b), .unset]) hw pn9 (fun m => by first | (simp [entryFrame, mkF, argsToLocals, Value.category, maxLocals]; done) | rfl) fun W C => ?_
  refine C.kept fun hE => ?_
  have z0 : Z.heap.size ≤ h.size := hE.1
  refine C.aloadN 1 d9_0 rfl rfl rfl ?_
  refine C.aloadN 2 d9_1 rfl rfl rfl ?_
  refine C.acmpT 7 d9_2 rfl rfl rfl (by simp [XT.acmp, ne]) ?_
  refine C.aloadN 8 d9_7 rfl rfl rfl ?_
  refine C.instanceofT 11 d9_8 rfl (tw 64) (Ins.self B.1) ?_
  refine C.ifF 14 d9_11 rfl (by decide) ?_
  refine C.aloadN 15 d9_14 rfl rfl rfl ?_
  refine C.checkcast 18 d9_15 rfl (tw 64) (Ins.self B.1) ?_
  refine C.astoreN 19 #[.val (.ref a), .val (.ref b), .val (.ref b)] d9_18 rfl rfl rfl ?_
  refine C.getstatic 22 d9_19 rfl (tw 21) SCP ?_
  refine C.ifF 25 d9_22 rfl ((if0 _ _).trans (feq hcp).1) ?_
  refine C.aloadN 26 d9_25 rfl rfl rfl ?_
  refine C.getfield 29 d9_26 rfl (tw 33) Via.refl A.2.2.1 ?_
  refine C.aloadN 30 d9_29 rfl rfl rfl ?_
  refine C.getfield 33 d9_30 rfl (tw 33) Via.refl B.2.2.1 ?_
  refine C.icmpF 36 d9_33 rfl (by decide) ?_
  refine C.aloadN 37 d9_36 rfl rfl rfl ?_
  refine C.getfield 40 d9_37 rfl (tw 35) Via.refl A.2.1 ?_
  refine C.aloadN 41 d9_40 rfl rfl rfl ?_
  refine C.getfield 44 d9_41 rfl (tw 35) Via.refl B.2.1 ?_
  refine C.callS 47 (as := [.ref va, .ref vb]) (rest := []) (rm := ⟨0, 0, 0, 0⟩) 0 d9_44 rfl (tw 65) (tw 66) (tw 67) (tw 68) (by decide) (eqL l Z a0' hw h va vb xs ys hn hm A.2.2.2 B.2.2.2 r hr) pd10 rfl rfl (Nat.le_of_eq rfl) (by decide) (by decide) (by decide) (by decide) rfl ?_
  refine same_intro ?_
  show W h 0 0 47 #[.val (.ref a), .val (.ref b), .val (.ref b)] [.int r]
  have r01 : r = 1 ∨ r = 0 := by rw [hr]; split <;> simp
  clear hr
  rcases r01 with rfl | rfl
  · refine C.ifF 50 d9_47 rfl (by decide) ?_
    refine C.iconst 51 (1 : Int32) d9_50 rfl rfl ?_
    refine C.goto 55 d9_51 rfl ?_
    exact C.retI .boolean d9_55 rfl (by simp) rfl (by decide) (by decide) ⟨rfl, rfl⟩
  · refine C.ifT 54 d9_47 rfl (by decide) ?_
    refine C.iconst 55 (0 : Int32) d9_54 rfl rfl ?_
    exact C.retI .boolean d9_55 rfl (by simp) rfl (by decide) (by decide) ⟨rfl, rfl⟩
def tx0 : List Int32 := [(99 : Int32), (111 : Int32), (109 : Int32), (109 : Int32), (105 : Int32), (116 : Int32)]
def tx1 : List Int32 := [(114 : Int32), (111 : Int32), (108 : Int32), (108 : Int32), (98 : Int32), (97 : Int32), (99 : Int32), (107 : Int32)]
def tx2 : List Int32 := [(117 : Int32), (110 : Int32), (107 : Int32), (110 : Int32), (111 : Int32), (119 : Int32), (110 : Int32)]
theorem d8_0 : decode prog_37_method_1_code 0 = .ok (.getstatic 13, 3) := by decide +kernel
theorem d8_3 : decode prog_37_method_1_code 3 = .ok (.invokevirtual 17, 3) := by decide +kernel
theorem d8_6 : decode prog_37_method_1_code 6 = .ok (.checkcast 18, 3) := by decide +kernel
theorem d8_9 : decode prog_37_method_1_code 9 = .ok (.areturn, 1) := by decide +kernel
theorem pn8 : plainFor (⟨"com/example/reserved_delivery/reserveddelivery/model/Resolution", "values", "()[Lcom/example/reserved_delivery/reserveddelivery/model/Resolution;"⟩ : MethodName) = true := by first | exact plainFor_of_name (by first | (simp [plainName, overriddenIn]; done) | decide +kernel) | decide +kernel
theorem pd8 : parseMethodDescriptor "()[Lcom/example/reserved_delivery/reserveddelivery/model/Resolution;" = some ⟨[], some (.array (.object "com/example/reserved_delivery/reserveddelivery/model/Resolution"))⟩ := by decide +kernel
set_option maxRecDepth 65536 in
set_option maxHeartbeats 40000000 in
theorem values (l : Launch) (Z : State) (a0' : Array Value) (hw : ∀ d ∈ tables_1, d.before a0' Z = true) (h : Heap) (va : Addr) (SV : Sta Z Z.heap "com/example/reserved_delivery/reserveddelivery/model/Resolution" "$VALUES" "[Lcom/example/reserved_delivery/reserveddelivery/model/Resolution;" (.ref va)) (cl : Cell) (AV : Arr Z Z.heap va cl (.object "com/example/reserved_delivery/reserveddelivery/model/Resolution")) (XV : Exa Z Z.heap va "[Lcom/example/reserved_delivery/reserveddelivery/model/Resolution;") (FV : FitC Z cl) (hv : cl.slots.size = 3) :
    Con l Z (⟨"com/example/reserved_delivery/reserveddelivery/model/Resolution", "values", "()[Lcom/example/reserved_delivery/reserveddelivery/model/Resolution;"⟩ : MethodName) prog_37_method_1_code 0 (some (.array (.object "com/example/reserved_delivery/reserveddelivery/model/Resolution"))) ⟨1, 1, 4, 14⟩ #[] h (fun v h' => ∃ b, v = some (.ref b) ∧ Ext h h' ∧ Al Z h' b (.object "com/example/reserved_delivery/reserveddelivery/model/Resolution") cl.slots.toList) := by
  refine Con.of (Ls := #[]) hw pn8 (fun m => by first | (simp [entryFrame, mkF, argsToLocals, Value.category, maxLocals]; done) | rfl) fun W C => ?_
  refine C.kept fun hE => ?_
  have z0 : Z.heap.size ≤ h.size := hE.1
  refine C.getstatic 3 d8_0 rfl (tw 43) SV ?_
  refine C.clone 6 4 0 d8_3 rfl (tw 45) (tw 46) (tw 50) (tw 48) (tw 49) (tw 51) (AV.ext hE) (XV.ext hE) FV rfl (by decide) (Nat.le_of_eq rfl) (by decide) (by omega) (by decide) (by decide) ?_
  intro h1 E1 A1 X1
  show W h1 1 4 6 #[] [.ref h.size]
  refine C.checkcast 9 d8_6 rfl (tw 55) (Ins.self X1) ?_
  exact C.retA (.array (.object "com/example/reserved_delivery/reserveddelivery/model/Resolution")) d8_9 rfl rfl rfl (by decide) (by decide) ⟨_, rfl, E1, A1⟩
theorem d7_0 : decode prog_37_method_4_code 0 = .ok (.invokestatic 40, 3) := by decide +kernel
theorem d7_3 : decode prog_37_method_4_code 3 = .ok (.astore_n 1, 1) := by decide +kernel
theorem d7_4 : decode prog_37_method_4_code 4 = .ok (.aload_n 1, 1) := by decide +kernel
theorem d7_5 : decode prog_37_method_4_code 5 = .ok (.arraylength, 1) := by decide +kernel
theorem d7_6 : decode prog_37_method_4_code 6 = .ok (.istore_n 2, 1) := by decide +kernel
theorem d7_7 : decode prog_37_method_4_code 7 = .ok (.iconst 0, 1) := by decide +kernel
theorem d7_8 : decode prog_37_method_4_code 8 = .ok (.istore_n 3, 1) := by decide +kernel
theorem d7_9 : decode prog_37_method_4_code 9 = .ok (.iload_n 3, 1) := by decide +kernel
theorem d7_10 : decode prog_37_method_4_code 10 = .ok (.iload_n 2, 1) := by decide +kernel
theorem d7_11 : decode prog_37_method_4_code 11 = .ok (.if_icmp .ge 29, 3) := by decide +kernel
theorem d7_14 : decode prog_37_method_4_code 14 = .ok (.aload_n 1, 1) := by decide +kernel
theorem d7_15 : decode prog_37_method_4_code 15 = .ok (.iload_n 3, 1) := by decide +kernel
theorem d7_16 : decode prog_37_method_4_code 16 = .ok (.aaload, 1) := by decide +kernel
theorem d7_17 : decode prog_37_method_4_code 17 = .ok (.astore 4, 2) := by decide +kernel
theorem d7_19 : decode prog_37_method_4_code 19 = .ok (.aload 4, 2) := by decide +kernel
theorem d7_21 : decode prog_37_method_4_code 21 = .ok (.getfield 32, 3) := by decide +kernel
theorem d7_24 : decode prog_37_method_4_code 24 = .ok (.aload_n 0, 1) := by decide +kernel
theorem d7_25 : decode prog_37_method_4_code 25 = .ok (.invokevirtual 44, 3) := by decide +kernel
theorem d7_28 : decode prog_37_method_4_code 28 = .ok (.ifCond .eq 6, 3) := by decide +kernel
theorem d7_31 : decode prog_37_method_4_code 31 = .ok (.aload 4, 2) := by decide +kernel
theorem d7_33 : decode prog_37_method_4_code 33 = .ok (.areturn, 1) := by decide +kernel
theorem d7_34 : decode prog_37_method_4_code 34 = .ok (.iinc 3 1, 3) := by decide +kernel
theorem d7_37 : decode prog_37_method_4_code 37 = .ok (.goto (-28), 3) := by decide +kernel
theorem d7_40 : decode prog_37_method_4_code 40 = .ok (.new 50, 3) := by decide +kernel
theorem d7_43 : decode prog_37_method_4_code 43 = .ok (.dup, 1) := by decide +kernel
theorem d7_44 : decode prog_37_method_4_code 44 = .ok (.ldc 52, 2) := by decide +kernel
theorem d7_46 : decode prog_37_method_4_code 46 = .ok (.invokespecial 54, 3) := by decide +kernel
theorem d7_49 : decode prog_37_method_4_code 49 = .ok (.athrow, 1) := by decide +kernel
theorem pn7 : plainFor (⟨"com/example/reserved_delivery/reserveddelivery/model/Resolution", "of", "(Ljava/lang/String;)Lcom/example/reserved_delivery/reserveddelivery/model/Resolution;"⟩ : MethodName) = true := by first | exact plainFor_of_name (by first | (simp [plainName, overriddenIn]; done) | decide +kernel) | decide +kernel
theorem pd7 : parseMethodDescriptor "(Ljava/lang/String;)Lcom/example/reserved_delivery/reserveddelivery/model/Resolution;" = some ⟨[(.object "java/lang/String")], some (.object "com/example/reserved_delivery/reserveddelivery/model/Resolution")⟩ := by decide +kernel
set_option maxRecDepth 65536 in
set_option maxHeartbeats 40000000 in
theorem of0 (l : Launch) (Z : State) (a0' : Array Value) (hw : ∀ d ∈ tables_1, d.before a0' Z = true) (h : Heap) (cpt : Int32) (SCP : Sta Z Z.heap "java/lang/String" "COMPACT_STRINGS" "Z" (.int cpt)) (hcp : ¬ cpt = 0) (va : Addr) (SV : Sta Z Z.heap "com/example/reserved_delivery/reserveddelivery/model/Resolution" "$VALUES" "[Lcom/example/reserved_delivery/reserveddelivery/model/Resolution;" (.ref va)) (cl : Cell) (AV : Arr Z Z.heap va cl (.object "com/example/reserved_delivery/reserveddelivery/model/Resolution")) (XV : Exa Z Z.heap va "[Lcom/example/reserved_delivery/reserveddelivery/model/Resolution;") (FV : FitC Z cl) (hv : cl.slots.size = 3) (e0 t0 c0 : Addr) (F0 : Fld Z Z.heap e0 "com/example/reserved_delivery/reserveddelivery/model/Resolution" "text" "Ljava/lang/String;" (.ref t0)) (T0 : StrL Z Z.heap t0 c0 tx0) (u0 : cl.slots[0]? = some (.ref e0)) (e1 t1 c1 : Addr) (F1 : Fld Z Z.heap e1 "com/example/reserved_delivery/reserveddelivery/model/Resolution" "text" "Ljava/lang/String;" (.ref t1)) (T1 : StrL Z Z.heap t1 c1 tx1) (u1 : cl.slots[1]? = some (.ref e1)) (e2 t2 c2 : Addr) (F2 : Fld Z Z.heap e2 "com/example/reserved_delivery/reserveddelivery/model/Resolution" "text" "Ljava/lang/String;" (.ref t2)) (T2 : StrL Z Z.heap t2 c2 tx2) (u2 : cl.slots[2]? = some (.ref e2)) (a b : Addr) (za : Z.heap.size ≤ a) (A : StrL Z h a b tx0) :
    Con l Z (⟨"com/example/reserved_delivery/reserveddelivery/model/Resolution", "of", "(Ljava/lang/String;)Lcom/example/reserved_delivery/reserveddelivery/model/Resolution;"⟩ : MethodName) prog_37_method_4_code 5 (some (.object "com/example/reserved_delivery/reserveddelivery/model/Resolution")) ⟨2, 1, 4, 28⟩ #[.ref a] h (fun v h' => v = some (.ref e0) ∧ Ext h h') := by
  refine Con.of (Ls := #[.val (.ref a), .unset, .unset, .unset, .unset]) hw pn7 (fun m => by first | (simp [entryFrame, mkF, argsToLocals, Value.category, maxLocals]; done) | rfl) fun W C => ?_
  refine C.kept fun hE => ?_
  have z0 : Z.heap.size ≤ h.size := hE.1
  refine C.callS 3 (as := []) (rest := []) (rm := ⟨1, 1, 4, 14⟩) 0 d7_0 rfl (tw 40) (tw 41) (tw 3) (tw 42) (by decide) (values l Z a0' hw h va SV cl AV XV FV hv) pd8 rfl rfl (Nat.le_of_eq rfl) (by decide) (by decide) (by decide) (by decide) rfl ?_
  rintro v h1 ⟨ar, rfl, E1, A1⟩
  show W h1 1 4 3 #[.val (.ref a), .unset, .unset, .unset, .unset] [.ref ar]
  have A' := A.ext E1
  refine C.astoreN 4 #[.val (.ref a), .val (.ref ar), .unset, .unset, .unset] d7_3 rfl rfl rfl ?_
  refine C.aloadN 5 d7_4 rfl rfl rfl ?_
  refine C.arraylength 6 (3 : Int32) d7_5 rfl A1 (by rw [Array.length_toList, hv]; rfl) ?_
  refine C.istoreN 7 #[.val (.ref a), .val (.ref ar), .val (.int (3 : Int32)), .unset, .unset] d7_6 rfl rfl ?_
  refine C.iconst 8 (0 : Int32) d7_7 rfl rfl ?_
  refine C.istoreN 9 #[.val (.ref a), .val (.ref ar), .val (.int (3 : Int32)), .val (.int (0 : Int32)), .unset] d7_8 rfl rfl ?_
  refine C.iloadN 10 d7_9 rfl rfl ?_
  refine C.iloadN 11 d7_10 rfl rfl ?_
  refine C.icmpF 14 d7_11 rfl (by decide) ?_
  refine C.aloadN 15 d7_14 rfl rfl rfl ?_
  refine C.iloadN 16 d7_15 rfl rfl ?_
  refine C.aaloadA 17 0 (.ref e0) d7_16 rfl rfl A1 (by decide) rfl (by rw [← list_at rfl]; exact u0) ?_
  refine C.astore 19 #[.val (.ref a), .val (.ref ar), .val (.int (3 : Int32)), .val (.int (0 : Int32)), .val (.ref e0)] d7_17 rfl rfl rfl ?_
  refine C.aload 21 d7_19 rfl rfl rfl ?_
  refine C.getfieldOld 24 d7_21 rfl (tw 57) Via.refl F0 ?_
  refine C.aloadN 25 d7_24 rfl rfl rfl ?_
  refine C.kept fun hE1 => ?_
  have nt0 : ¬ t0 = a := fun q => absurd (T0.1.lt) (by rw [q]; exact Nat.not_lt.mpr za)
  refine C.callV 28 (as := [.ref a]) (rest := []) (rm := ⟨1, 0, 0, 14⟩) 0 d7_25 rfl (tw 59) (tw 60) (tw 62) nfSelf (tw 61) (tw 10) (tw 63) (by decide) (T0.1.ext hE1) (seq l Z a0' hw h1 t0 a c0 b nt0 cpt SCP hcp tx0 tx0 (by decide) (by decide) (T0.ext hE1) A' (1 : Int32) (by decide)) pd9 rfl rfl (Nat.le_of_eq rfl) (by decide) (by decide) (by decide) (by decide) rfl ?_
  refine same_intro ?_
  show W h1 1 4 28 #[.val (.ref a), .val (.ref ar), .val (.int (3 : Int32)), .val (.int (0 : Int32)), .val (.ref e0)] [.int (1 : Int32)]
  refine C.ifF 31 d7_28 rfl (by decide) ?_
  refine C.aload 33 d7_31 rfl rfl rfl ?_
  exact C.retA (.object "com/example/reserved_delivery/reserveddelivery/model/Resolution") d7_33 rfl rfl rfl (by decide) (by decide) ⟨rfl, E1⟩
set_option maxRecDepth 65536 in
set_option maxHeartbeats 40000000 in
theorem of1 (l : Launch) (Z : State) (a0' : Array Value) (hw : ∀ d ∈ tables_1, d.before a0' Z = true) (h : Heap) (cpt : Int32) (SCP : Sta Z Z.heap "java/lang/String" "COMPACT_STRINGS" "Z" (.int cpt)) (hcp : ¬ cpt = 0) (va : Addr) (SV : Sta Z Z.heap "com/example/reserved_delivery/reserveddelivery/model/Resolution" "$VALUES" "[Lcom/example/reserved_delivery/reserveddelivery/model/Resolution;" (.ref va)) (cl : Cell) (AV : Arr Z Z.heap va cl (.object "com/example/reserved_delivery/reserveddelivery/model/Resolution")) (XV : Exa Z Z.heap va "[Lcom/example/reserved_delivery/reserveddelivery/model/Resolution;") (FV : FitC Z cl) (hv : cl.slots.size = 3) (e0 t0 c0 : Addr) (F0 : Fld Z Z.heap e0 "com/example/reserved_delivery/reserveddelivery/model/Resolution" "text" "Ljava/lang/String;" (.ref t0)) (T0 : StrL Z Z.heap t0 c0 tx0) (u0 : cl.slots[0]? = some (.ref e0)) (e1 t1 c1 : Addr) (F1 : Fld Z Z.heap e1 "com/example/reserved_delivery/reserveddelivery/model/Resolution" "text" "Ljava/lang/String;" (.ref t1)) (T1 : StrL Z Z.heap t1 c1 tx1) (u1 : cl.slots[1]? = some (.ref e1)) (e2 t2 c2 : Addr) (F2 : Fld Z Z.heap e2 "com/example/reserved_delivery/reserveddelivery/model/Resolution" "text" "Ljava/lang/String;" (.ref t2)) (T2 : StrL Z Z.heap t2 c2 tx2) (u2 : cl.slots[2]? = some (.ref e2)) (a b : Addr) (za : Z.heap.size ≤ a) (A : StrL Z h a b tx1) :
    Con l Z (⟨"com/example/reserved_delivery/reserveddelivery/model/Resolution", "of", "(Ljava/lang/String;)Lcom/example/reserved_delivery/reserveddelivery/model/Resolution;"⟩ : MethodName) prog_37_method_4_code 5 (some (.object "com/example/reserved_delivery/reserveddelivery/model/Resolution")) ⟨2, 1, 4, 28⟩ #[.ref a] h (fun v h' => v = some (.ref e1) ∧ Ext h h') := by
  refine Con.of (Ls := #[.val (.ref a), .unset, .unset, .unset, .unset]) hw pn7 (fun m => by first | (simp [entryFrame, mkF, argsToLocals, Value.category, maxLocals]; done) | rfl) fun W C => ?_
  refine C.kept fun hE => ?_
  have z0 : Z.heap.size ≤ h.size := hE.1
  refine C.callS 3 (as := []) (rest := []) (rm := ⟨1, 1, 4, 14⟩) 0 d7_0 rfl (tw 40) (tw 41) (tw 3) (tw 42) (by decide) (values l Z a0' hw h va SV cl AV XV FV hv) pd8 rfl rfl (Nat.le_of_eq rfl) (by decide) (by decide) (by decide) (by decide) rfl ?_
  rintro v h1 ⟨ar, rfl, E1, A1⟩
  show W h1 1 4 3 #[.val (.ref a), .unset, .unset, .unset, .unset] [.ref ar]
  have A' := A.ext E1
  refine C.astoreN 4 #[.val (.ref a), .val (.ref ar), .unset, .unset, .unset] d7_3 rfl rfl rfl ?_
  refine C.aloadN 5 d7_4 rfl rfl rfl ?_
  refine C.arraylength 6 (3 : Int32) d7_5 rfl A1 (by rw [Array.length_toList, hv]; rfl) ?_
  refine C.istoreN 7 #[.val (.ref a), .val (.ref ar), .val (.int (3 : Int32)), .unset, .unset] d7_6 rfl rfl ?_
  refine C.iconst 8 (0 : Int32) d7_7 rfl rfl ?_
  refine C.istoreN 9 #[.val (.ref a), .val (.ref ar), .val (.int (3 : Int32)), .val (.int (0 : Int32)), .unset] d7_8 rfl rfl ?_
  refine C.iloadN 10 d7_9 rfl rfl ?_
  refine C.iloadN 11 d7_10 rfl rfl ?_
  refine C.icmpF 14 d7_11 rfl (by decide) ?_
  refine C.aloadN 15 d7_14 rfl rfl rfl ?_
  refine C.iloadN 16 d7_15 rfl rfl ?_
  refine C.aaloadA 17 0 (.ref e0) d7_16 rfl rfl A1 (by decide) rfl (by rw [← list_at rfl]; exact u0) ?_
  refine C.astore 19 #[.val (.ref a), .val (.ref ar), .val (.int (3 : Int32)), .val (.int (0 : Int32)), .val (.ref e0)] d7_17 rfl rfl rfl ?_
  refine C.aload 21 d7_19 rfl rfl rfl ?_
  refine C.getfieldOld 24 d7_21 rfl (tw 57) Via.refl F0 ?_
  refine C.aloadN 25 d7_24 rfl rfl rfl ?_
  refine C.kept fun hE1 => ?_
  have nt0 : ¬ t0 = a := fun q => absurd (T0.1.lt) (by rw [q]; exact Nat.not_lt.mpr za)
  refine C.callV 28 (as := [.ref a]) (rest := []) (rm := ⟨1, 0, 0, 14⟩) 0 d7_25 rfl (tw 59) (tw 60) (tw 62) nfSelf (tw 61) (tw 10) (tw 63) (by decide) (T0.1.ext hE1) (seq l Z a0' hw h1 t0 a c0 b nt0 cpt SCP hcp tx0 tx1 (by decide) (by decide) (T0.ext hE1) A' (0 : Int32) (by decide)) pd9 rfl rfl (Nat.le_of_eq rfl) (by decide) (by decide) (by decide) (by decide) rfl ?_
  refine same_intro ?_
  show W h1 1 4 28 #[.val (.ref a), .val (.ref ar), .val (.int (3 : Int32)), .val (.int (0 : Int32)), .val (.ref e0)] [.int (0 : Int32)]
  refine C.ifT 34 d7_28 rfl (by decide) ?_
  refine C.iinc 37 #[.val (.ref a), .val (.ref ar), .val (.int (3 : Int32)), .val (.int ((0 : Int32) + (1 : Int32))), .val (.ref e0)] d7_34 rfl rfl rfl ?_
  refine C.goto 9 d7_37 rfl ?_
  show W h1 1 4 9 #[.val (.ref a), .val (.ref ar), .val (.int (3 : Int32)), .val (.int (1 : Int32)), .val (.ref e0)] []
  refine C.iloadN 10 d7_9 rfl rfl ?_
  refine C.iloadN 11 d7_10 rfl rfl ?_
  refine C.icmpF 14 d7_11 rfl (by decide) ?_
  refine C.aloadN 15 d7_14 rfl rfl rfl ?_
  refine C.iloadN 16 d7_15 rfl rfl ?_
  refine C.aaloadA 17 1 (.ref e1) d7_16 rfl rfl A1 (by decide) rfl (by rw [← list_at rfl]; exact u1) ?_
  refine C.astore 19 #[.val (.ref a), .val (.ref ar), .val (.int (3 : Int32)), .val (.int (1 : Int32)), .val (.ref e1)] d7_17 rfl rfl rfl ?_
  refine C.aload 21 d7_19 rfl rfl rfl ?_
  refine C.getfieldOld 24 d7_21 rfl (tw 57) Via.refl F1 ?_
  refine C.aloadN 25 d7_24 rfl rfl rfl ?_
  refine C.kept fun hE1 => ?_
  have nt1 : ¬ t1 = a := fun q => absurd (T1.1.lt) (by rw [q]; exact Nat.not_lt.mpr za)
  refine C.callV 28 (as := [.ref a]) (rest := []) (rm := ⟨1, 0, 0, 14⟩) 0 d7_25 rfl (tw 59) (tw 60) (tw 62) nfSelf (tw 61) (tw 10) (tw 63) (by decide) (T1.1.ext hE1) (seq l Z a0' hw h1 t1 a c1 b nt1 cpt SCP hcp tx1 tx1 (by decide) (by decide) (T1.ext hE1) A' (1 : Int32) (by decide)) pd9 rfl rfl (Nat.le_of_eq rfl) (by decide) (by decide) (by decide) (by decide) rfl ?_
  refine same_intro ?_
  show W h1 1 4 28 #[.val (.ref a), .val (.ref ar), .val (.int (3 : Int32)), .val (.int (1 : Int32)), .val (.ref e1)] [.int (1 : Int32)]
  refine C.ifF 31 d7_28 rfl (by decide) ?_
  refine C.aload 33 d7_31 rfl rfl rfl ?_
  exact C.retA (.object "com/example/reserved_delivery/reserveddelivery/model/Resolution") d7_33 rfl rfl rfl (by decide) (by decide) ⟨rfl, E1⟩
set_option maxRecDepth 65536 in
set_option maxHeartbeats 40000000 in
theorem of2 (l : Launch) (Z : State) (a0' : Array Value) (hw : ∀ d ∈ tables_1, d.before a0' Z = true) (h : Heap) (cpt : Int32) (SCP : Sta Z Z.heap "java/lang/String" "COMPACT_STRINGS" "Z" (.int cpt)) (hcp : ¬ cpt = 0) (va : Addr) (SV : Sta Z Z.heap "com/example/reserved_delivery/reserveddelivery/model/Resolution" "$VALUES" "[Lcom/example/reserved_delivery/reserveddelivery/model/Resolution;" (.ref va)) (cl : Cell) (AV : Arr Z Z.heap va cl (.object "com/example/reserved_delivery/reserveddelivery/model/Resolution")) (XV : Exa Z Z.heap va "[Lcom/example/reserved_delivery/reserveddelivery/model/Resolution;") (FV : FitC Z cl) (hv : cl.slots.size = 3) (e0 t0 c0 : Addr) (F0 : Fld Z Z.heap e0 "com/example/reserved_delivery/reserveddelivery/model/Resolution" "text" "Ljava/lang/String;" (.ref t0)) (T0 : StrL Z Z.heap t0 c0 tx0) (u0 : cl.slots[0]? = some (.ref e0)) (e1 t1 c1 : Addr) (F1 : Fld Z Z.heap e1 "com/example/reserved_delivery/reserveddelivery/model/Resolution" "text" "Ljava/lang/String;" (.ref t1)) (T1 : StrL Z Z.heap t1 c1 tx1) (u1 : cl.slots[1]? = some (.ref e1)) (e2 t2 c2 : Addr) (F2 : Fld Z Z.heap e2 "com/example/reserved_delivery/reserveddelivery/model/Resolution" "text" "Ljava/lang/String;" (.ref t2)) (T2 : StrL Z Z.heap t2 c2 tx2) (u2 : cl.slots[2]? = some (.ref e2)) (a b : Addr) (za : Z.heap.size ≤ a) (A : StrL Z h a b tx2) :
    Con l Z (⟨"com/example/reserved_delivery/reserveddelivery/model/Resolution", "of", "(Ljava/lang/String;)Lcom/example/reserved_delivery/reserveddelivery/model/Resolution;"⟩ : MethodName) prog_37_method_4_code 5 (some (.object "com/example/reserved_delivery/reserveddelivery/model/Resolution")) ⟨2, 1, 4, 28⟩ #[.ref a] h (fun v h' => v = some (.ref e2) ∧ Ext h h') := by
  refine Con.of (Ls := #[.val (.ref a), .unset, .unset, .unset, .unset]) hw pn7 (fun m => by first | (simp [entryFrame, mkF, argsToLocals, Value.category, maxLocals]; done) | rfl) fun W C => ?_
  refine C.kept fun hE => ?_
  have z0 : Z.heap.size ≤ h.size := hE.1
  refine C.callS 3 (as := []) (rest := []) (rm := ⟨1, 1, 4, 14⟩) 0 d7_0 rfl (tw 40) (tw 41) (tw 3) (tw 42) (by decide) (values l Z a0' hw h va SV cl AV XV FV hv) pd8 rfl rfl (Nat.le_of_eq rfl) (by decide) (by decide) (by decide) (by decide) rfl ?_
  rintro v h1 ⟨ar, rfl, E1, A1⟩
  show W h1 1 4 3 #[.val (.ref a), .unset, .unset, .unset, .unset] [.ref ar]
  have A' := A.ext E1
  refine C.astoreN 4 #[.val (.ref a), .val (.ref ar), .unset, .unset, .unset] d7_3 rfl rfl rfl ?_
  refine C.aloadN 5 d7_4 rfl rfl rfl ?_
  refine C.arraylength 6 (3 : Int32) d7_5 rfl A1 (by rw [Array.length_toList, hv]; rfl) ?_
  refine C.istoreN 7 #[.val (.ref a), .val (.ref ar), .val (.int (3 : Int32)), .unset, .unset] d7_6 rfl rfl ?_
  refine C.iconst 8 (0 : Int32) d7_7 rfl rfl ?_
  refine C.istoreN 9 #[.val (.ref a), .val (.ref ar), .val (.int (3 : Int32)), .val (.int (0 : Int32)), .unset] d7_8 rfl rfl ?_
  refine C.iloadN 10 d7_9 rfl rfl ?_
  refine C.iloadN 11 d7_10 rfl rfl ?_
  refine C.icmpF 14 d7_11 rfl (by decide) ?_
  refine C.aloadN 15 d7_14 rfl rfl rfl ?_
  refine C.iloadN 16 d7_15 rfl rfl ?_
  refine C.aaloadA 17 0 (.ref e0) d7_16 rfl rfl A1 (by decide) rfl (by rw [← list_at rfl]; exact u0) ?_
  refine C.astore 19 #[.val (.ref a), .val (.ref ar), .val (.int (3 : Int32)), .val (.int (0 : Int32)), .val (.ref e0)] d7_17 rfl rfl rfl ?_
  refine C.aload 21 d7_19 rfl rfl rfl ?_
  refine C.getfieldOld 24 d7_21 rfl (tw 57) Via.refl F0 ?_
  refine C.aloadN 25 d7_24 rfl rfl rfl ?_
  refine C.kept fun hE1 => ?_
  have nt0 : ¬ t0 = a := fun q => absurd (T0.1.lt) (by rw [q]; exact Nat.not_lt.mpr za)
  refine C.callV 28 (as := [.ref a]) (rest := []) (rm := ⟨1, 0, 0, 14⟩) 0 d7_25 rfl (tw 59) (tw 60) (tw 62) nfSelf (tw 61) (tw 10) (tw 63) (by decide) (T0.1.ext hE1) (seq l Z a0' hw h1 t0 a c0 b nt0 cpt SCP hcp tx0 tx2 (by decide) (by decide) (T0.ext hE1) A' (0 : Int32) (by decide)) pd9 rfl rfl (Nat.le_of_eq rfl) (by decide) (by decide) (by decide) (by decide) rfl ?_
  refine same_intro ?_
  show W h1 1 4 28 #[.val (.ref a), .val (.ref ar), .val (.int (3 : Int32)), .val (.int (0 : Int32)), .val (.ref e0)] [.int (0 : Int32)]
  refine C.ifT 34 d7_28 rfl (by decide) ?_
  refine C.iinc 37 #[.val (.ref a), .val (.ref ar), .val (.int (3 : Int32)), .val (.int ((0 : Int32) + (1 : Int32))), .val (.ref e0)] d7_34 rfl rfl rfl ?_
  refine C.goto 9 d7_37 rfl ?_
  show W h1 1 4 9 #[.val (.ref a), .val (.ref ar), .val (.int (3 : Int32)), .val (.int (1 : Int32)), .val (.ref e0)] []
  refine C.iloadN 10 d7_9 rfl rfl ?_
  refine C.iloadN 11 d7_10 rfl rfl ?_
  refine C.icmpF 14 d7_11 rfl (by decide) ?_
  refine C.aloadN 15 d7_14 rfl rfl rfl ?_
  refine C.iloadN 16 d7_15 rfl rfl ?_
  refine C.aaloadA 17 1 (.ref e1) d7_16 rfl rfl A1 (by decide) rfl (by rw [← list_at rfl]; exact u1) ?_
  refine C.astore 19 #[.val (.ref a), .val (.ref ar), .val (.int (3 : Int32)), .val (.int (1 : Int32)), .val (.ref e1)] d7_17 rfl rfl rfl ?_
  refine C.aload 21 d7_19 rfl rfl rfl ?_
  refine C.getfieldOld 24 d7_21 rfl (tw 57) Via.refl F1 ?_
  refine C.aloadN 25 d7_24 rfl rfl rfl ?_
  refine C.kept fun hE1 => ?_
  have nt1 : ¬ t1 = a := fun q => absurd (T1.1.lt) (by rw [q]; exact Nat.not_lt.mpr za)
  refine C.callV 28 (as := [.ref a]) (rest := []) (rm := ⟨1, 0, 0, 14⟩) 0 d7_25 rfl (tw 59) (tw 60) (tw 62) nfSelf (tw 61) (tw 10) (tw 63) (by decide) (T1.1.ext hE1) (seq l Z a0' hw h1 t1 a c1 b nt1 cpt SCP hcp tx1 tx2 (by decide) (by decide) (T1.ext hE1) A' (0 : Int32) (by decide)) pd9 rfl rfl (Nat.le_of_eq rfl) (by decide) (by decide) (by decide) (by decide) rfl ?_
  refine same_intro ?_
  show W h1 1 4 28 #[.val (.ref a), .val (.ref ar), .val (.int (3 : Int32)), .val (.int (1 : Int32)), .val (.ref e1)] [.int (0 : Int32)]
  refine C.ifT 34 d7_28 rfl (by decide) ?_
  refine C.iinc 37 #[.val (.ref a), .val (.ref ar), .val (.int (3 : Int32)), .val (.int ((1 : Int32) + (1 : Int32))), .val (.ref e1)] d7_34 rfl rfl rfl ?_
  refine C.goto 9 d7_37 rfl ?_
  show W h1 1 4 9 #[.val (.ref a), .val (.ref ar), .val (.int (3 : Int32)), .val (.int (2 : Int32)), .val (.ref e1)] []
  refine C.iloadN 10 d7_9 rfl rfl ?_
  refine C.iloadN 11 d7_10 rfl rfl ?_
  refine C.icmpF 14 d7_11 rfl (by decide) ?_
  refine C.aloadN 15 d7_14 rfl rfl rfl ?_
  refine C.iloadN 16 d7_15 rfl rfl ?_
  refine C.aaloadA 17 2 (.ref e2) d7_16 rfl rfl A1 (by decide) rfl (by rw [← list_at rfl]; exact u2) ?_
  refine C.astore 19 #[.val (.ref a), .val (.ref ar), .val (.int (3 : Int32)), .val (.int (2 : Int32)), .val (.ref e2)] d7_17 rfl rfl rfl ?_
  refine C.aload 21 d7_19 rfl rfl rfl ?_
  refine C.getfieldOld 24 d7_21 rfl (tw 57) Via.refl F2 ?_
  refine C.aloadN 25 d7_24 rfl rfl rfl ?_
  refine C.kept fun hE1 => ?_
  have nt2 : ¬ t2 = a := fun q => absurd (T2.1.lt) (by rw [q]; exact Nat.not_lt.mpr za)
  refine C.callV 28 (as := [.ref a]) (rest := []) (rm := ⟨1, 0, 0, 14⟩) 0 d7_25 rfl (tw 59) (tw 60) (tw 62) nfSelf (tw 61) (tw 10) (tw 63) (by decide) (T2.1.ext hE1) (seq l Z a0' hw h1 t2 a c2 b nt2 cpt SCP hcp tx2 tx2 (by decide) (by decide) (T2.ext hE1) A' (1 : Int32) (by decide)) pd9 rfl rfl (Nat.le_of_eq rfl) (by decide) (by decide) (by decide) (by decide) rfl ?_
  refine same_intro ?_
  show W h1 1 4 28 #[.val (.ref a), .val (.ref ar), .val (.int (3 : Int32)), .val (.int (2 : Int32)), .val (.ref e2)] [.int (1 : Int32)]
  refine C.ifF 31 d7_28 rfl (by decide) ?_
  refine C.aload 33 d7_31 rfl rfl rfl ?_
  exact C.retA (.object "com/example/reserved_delivery/reserveddelivery/model/Resolution") d7_33 rfl rfl rfl (by decide) (by decide) ⟨rfl, E1⟩
theorem d11_0 : decode prog_37_method_5_code 0 = .ok (.aload_n 0, 1) := by decide +kernel
theorem d11_1 : decode prog_37_method_5_code 1 = .ok (.getfield 32, 3) := by decide +kernel
theorem d11_4 : decode prog_37_method_5_code 4 = .ok (.areturn, 1) := by decide +kernel
theorem pn11 : plainFor (⟨"com/example/reserved_delivery/reserveddelivery/model/Resolution", "text", "()Ljava/lang/String;"⟩ : MethodName) = true := by first | exact plainFor_of_name (by first | (simp [plainName, overriddenIn]; done) | decide +kernel) | decide +kernel
theorem pd11 : parseMethodDescriptor "()Ljava/lang/String;" = some ⟨[], some (.object "java/lang/String")⟩ := by decide +kernel
set_option maxRecDepth 65536 in
set_option maxHeartbeats 40000000 in
theorem text (l : Launch) (Z : State) (a0' : Array Value) (hw : ∀ d ∈ tables_1, d.before a0' Z = true) (h : Heap) (e t : Addr) (F : Fld Z Z.heap e "com/example/reserved_delivery/reserveddelivery/model/Resolution" "text" "Ljava/lang/String;" (.ref t)) :
    Con l Z (⟨"com/example/reserved_delivery/reserveddelivery/model/Resolution", "text", "()Ljava/lang/String;"⟩ : MethodName) prog_37_method_5_code 1 (some (.object "java/lang/String")) ⟨0, 0, 0, 0⟩ #[.ref e] h (Same (some (.ref t)) h) := by
  refine Con.of (Ls := #[.val (.ref e)]) hw pn11 (fun m => by first | (simp [entryFrame, mkF, argsToLocals, Value.category, maxLocals]; done) | rfl) fun W C => ?_
  refine C.kept fun hE => ?_
  have z0 : Z.heap.size ≤ h.size := hE.1
  refine C.aloadN 1 d11_0 rfl rfl rfl ?_
  refine C.getfieldOld 4 d11_1 rfl (tw 57) Via.refl F ?_
  exact C.retA (.object "java/lang/String") d11_4 rfl rfl rfl (by decide) (by decide) ⟨rfl, rfl⟩
theorem d12_0 : decode prog_37_method_6_code 0 = .ok (.aload_n 0, 1) := by decide +kernel
theorem d12_1 : decode prog_37_method_6_code 1 = .ok (.getfield 36, 3) := by decide +kernel
theorem d12_4 : decode prog_37_method_6_code 4 = .ok (.areturn, 1) := by decide +kernel
theorem pn12 : plainFor (⟨"com/example/reserved_delivery/reserveddelivery/model/Resolution", "outcome", "()Lcom/example/reserved_delivery/reserveddelivery/model/TransactionState;"⟩ : MethodName) = true := by first | exact plainFor_of_name (by first | (simp [plainName, overriddenIn]; done) | decide +kernel) | decide +kernel
theorem pd12 : parseMethodDescriptor "()Lcom/example/reserved_delivery/reserveddelivery/model/TransactionState;" = some ⟨[], some (.object "com/example/reserved_delivery/reserveddelivery/model/TransactionState")⟩ := by decide +kernel
set_option maxRecDepth 65536 in
set_option maxHeartbeats 40000000 in
theorem outc (l : Launch) (Z : State) (a0' : Array Value) (hw : ∀ d ∈ tables_1, d.before a0' Z = true) (h : Heap) (e t : Addr) (F : Fld Z Z.heap e "com/example/reserved_delivery/reserveddelivery/model/Resolution" "outcome" "Lcom/example/reserved_delivery/reserveddelivery/model/TransactionState;" (.ref t)) :
    Con l Z (⟨"com/example/reserved_delivery/reserveddelivery/model/Resolution", "outcome", "()Lcom/example/reserved_delivery/reserveddelivery/model/TransactionState;"⟩ : MethodName) prog_37_method_6_code 1 (some (.object "com/example/reserved_delivery/reserveddelivery/model/TransactionState")) ⟨0, 0, 0, 0⟩ #[.ref e] h (Same (some (.ref t)) h) := by
  refine Con.of (Ls := #[.val (.ref e)]) hw pn12 (fun m => by first | (simp [entryFrame, mkF, argsToLocals, Value.category, maxLocals]; done) | rfl) fun W C => ?_
  refine C.kept fun hE => ?_
  have z0 : Z.heap.size ≤ h.size := hE.1
  refine C.aloadN 1 d12_0 rfl rfl rfl ?_
  refine C.getfieldOld 4 d12_1 rfl (tw 80) Via.refl F ?_
  exact C.retA (.object "com/example/reserved_delivery/reserveddelivery/model/TransactionState") d12_4 rfl rfl rfl (by decide) (by decide) ⟨rfl, rfl⟩
theorem rem3 (p : Int32) : ∃ i : Nat, i < 3 ∧ (p &&& (2147483647 : Int32)) % (3 : Int32) = Int32.ofNat i := by
  have h1 := c_and p (2147483647 : Int32) (by decide)
  have h2 := (c_irem (p &&& (2147483647 : Int32)) (3 : Int32) 3 rfl).1 h1.1
  generalize (p &&& (2147483647 : Int32)) % (3 : Int32) = r at h2 ⊢
  refine ⟨r.toInt.toNat, by omega, Int32.toInt_inj.mp ?_⟩
  rw [Int32.toInt_ofNat_of_lt (by omega)]; omega
set_option maxRecDepth 65536 in
set_option maxHeartbeats 40000000 in
theorem law_con (l : Launch) (Z : State) (a0' : Array Value) (hw : ∀ d ∈ tables_1, d.before a0' Z = true) (p : Int32) (cpt : Int32) (SCP : Sta Z Z.heap "java/lang/String" "COMPACT_STRINGS" "Z" (.int cpt)) (hcp : ¬ cpt = 0) (va : Addr) (SV : Sta Z Z.heap "com/example/reserved_delivery/reserveddelivery/model/Resolution" "$VALUES" "[Lcom/example/reserved_delivery/reserveddelivery/model/Resolution;" (.ref va)) (cl : Cell) (AV : Arr Z Z.heap va cl (.object "com/example/reserved_delivery/reserveddelivery/model/Resolution")) (XV : Exa Z Z.heap va "[Lcom/example/reserved_delivery/reserveddelivery/model/Resolution;") (FV : FitC Z cl) (hv : cl.slots.size = 3) (e0 t0 c0 : Addr) (F0 : Fld Z Z.heap e0 "com/example/reserved_delivery/reserveddelivery/model/Resolution" "text" "Ljava/lang/String;" (.ref t0)) (T0 : StrL Z Z.heap t0 c0 tx0) (u0 : cl.slots[0]? = some (.ref e0)) (e1 t1 c1 : Addr) (F1 : Fld Z Z.heap e1 "com/example/reserved_delivery/reserveddelivery/model/Resolution" "text" "Ljava/lang/String;" (.ref t1)) (T1 : StrL Z Z.heap t1 c1 tx1) (u1 : cl.slots[1]? = some (.ref e1)) (e2 t2 c2 : Addr) (F2 : Fld Z Z.heap e2 "com/example/reserved_delivery/reserveddelivery/model/Resolution" "text" "Ljava/lang/String;" (.ref t2)) (T2 : StrL Z Z.heap t2 c2 tx2) (u2 : cl.slots[2]? = some (.ref e2)) (S0 : Sta Z Z.heap "com/example/reserved_delivery/reserveddelivery/model/Resolution" "COMMIT" "Lcom/example/reserved_delivery/reserveddelivery/model/Resolution;" (.ref e0)) (X0 : Exa Z Z.heap e0 "com/example/reserved_delivery/reserveddelivery/model/Resolution") (o0 : Addr) (SO0 : Sta Z Z.heap "com/example/reserved_delivery/reserveddelivery/model/TransactionState" "COMMITTED" "Lcom/example/reserved_delivery/reserveddelivery/model/TransactionState;" (.ref o0)) (G0 : Fld Z Z.heap e0 "com/example/reserved_delivery/reserveddelivery/model/Resolution" "outcome" "Lcom/example/reserved_delivery/reserveddelivery/model/TransactionState;" (.ref o0)) (S1 : Sta Z Z.heap "com/example/reserved_delivery/reserveddelivery/model/Resolution" "ROLLBACK" "Lcom/example/reserved_delivery/reserveddelivery/model/Resolution;" (.ref e1)) (X1 : Exa Z Z.heap e1 "com/example/reserved_delivery/reserveddelivery/model/Resolution") (o1 : Addr) (SO1 : Sta Z Z.heap "com/example/reserved_delivery/reserveddelivery/model/TransactionState" "ROLLED_BACK" "Lcom/example/reserved_delivery/reserveddelivery/model/TransactionState;" (.ref o1)) (G1 : Fld Z Z.heap e1 "com/example/reserved_delivery/reserveddelivery/model/Resolution" "outcome" "Lcom/example/reserved_delivery/reserveddelivery/model/TransactionState;" (.ref o1)) (S2 : Sta Z Z.heap "com/example/reserved_delivery/reserveddelivery/model/Resolution" "UNKNOWN" "Lcom/example/reserved_delivery/reserveddelivery/model/Resolution;" (.ref e2)) (X2 : Exa Z Z.heap e2 "com/example/reserved_delivery/reserveddelivery/model/Resolution") (o2 : Addr) (SO2 : Sta Z Z.heap "com/example/reserved_delivery/reserveddelivery/model/TransactionState" "PENDING" "Lcom/example/reserved_delivery/reserveddelivery/model/TransactionState;" (.ref o2)) (G2 : Fld Z Z.heap e2 "com/example/reserved_delivery/reserveddelivery/model/Resolution" "outcome" "Lcom/example/reserved_delivery/reserveddelivery/model/TransactionState;" (.ref o2)) :
    Con l Z x code maxLocals ret room_1 #[.int p] Z.heap (fun v _ => v = some (.int 1)) := by
  refine Con.of (Ls := #[.val (.int p), .unset, .unset, .unset, .unset, .unset, .unset]) hw pn0 (fun m => by first | (simp [entryFrame, mkF, argsToLocals, Value.category, maxLocals]; done) | rfl) fun W C => ?_
  have z0 : Z.heap.size ≤ Z.heap.size := Nat.le_refl _
  refine C.iloadN 1 at_0 rfl rfl ?_
  refine C.ldc 3 (2147483647 : Int32) at_1 rfl (tw 0) ?_
  refine C.iand 4 at_3 rfl ?_
  refine C.iconst 5 (3 : Int32) at_4 rfl rfl ?_
  refine C.irem 6 at_5 rfl (by decide) ?_
  refine C.istoreN 7 #[.val (.int p), .val (.int ((p &&& (2147483647 : Int32)) % (3 : Int32))), .unset, .unset, .unset, .unset, .unset] at_6 rfl rfl ?_
  obtain ⟨i, hi, e⟩ := rem3 p
  generalize (p &&& (2147483647 : Int32)) % (3 : Int32) = q at e ⊢
  subst e
  match i, hi with
  | 0, _ =>
    show W Z.heap 0 0 7 #[.val (.int p), .val (.int (0 : Int32)), .unset, .unset, .unset, .unset, .unset] []
    refine C.iloadN 8 at_7 rfl rfl ?_
    refine C.ifF 11 at_8 rfl (by decide) ?_
    refine C.bipush 13 (6 : Int32) at_11 rfl rfl ?_
    refine C.newarray 15 6 at_13 rfl (tw 1) (by decide) (by decide) (by decide) (by decide) (by decide) ?_
    intro h1 E1 A1
    obtain ⟨b1, g1⟩ : ∃ z, z = Z.heap.size := ⟨_, rfl⟩
    rw [← g1] at A1 ⊢
    have Ab1_1 : Al Z h1 b1 .char [.int (0 : Int32), .int (0 : Int32), .int (0 : Int32), .int (0 : Int32), .int (0 : Int32), .int (0 : Int32)] := A1
    have z1 : Z.heap.size ≤ h1.size := Nat.le_trans z0 E1.1
    have zb1 : Z.heap.size ≤ b1 := by rw [g1]; exact z0
    show W h1 1 6 15 #[.val (.int p), .val (.int (0 : Int32)), .unset, .unset, .unset, .unset, .unset] [.ref b1]
    refine C.dup 16 at_15 rfl rfl ?_
    refine C.iconst 17 (0 : Int32) at_16 rfl rfl ?_
    refine C.bipush 19 (99 : Int32) at_17 rfl rfl ?_
    refine C.castore 20 0 (99 : Int32) at_19 rfl Ab1_1 zb1 (by decide) rfl (Nat.le_of_ble_eq_true rfl) rfl ?_
    intro h2 W2 A2
    have Ab1_2 : Al Z h2 b1 .char [.int (99 : Int32), .int (0 : Int32), .int (0 : Int32), .int (0 : Int32), .int (0 : Int32), .int (0 : Int32)] := A2
    have z2 : Z.heap.size ≤ h2.size := by rw [W2.size]; exact z1
    refine C.dup 21 at_20 rfl rfl ?_
    refine C.iconst 22 (1 : Int32) at_21 rfl rfl ?_
    refine C.bipush 24 (111 : Int32) at_22 rfl rfl ?_
    refine C.castore 25 1 (111 : Int32) at_24 rfl Ab1_2 zb1 (by decide) rfl (Nat.le_of_ble_eq_true rfl) rfl ?_
    intro h3 W3 A3
    have Ab1_3 : Al Z h3 b1 .char [.int (99 : Int32), .int (111 : Int32), .int (0 : Int32), .int (0 : Int32), .int (0 : Int32), .int (0 : Int32)] := A3
    have z3 : Z.heap.size ≤ h3.size := by rw [W3.size]; exact z2
    refine C.dup 26 at_25 rfl rfl ?_
    refine C.iconst 27 (2 : Int32) at_26 rfl rfl ?_
    refine C.bipush 29 (109 : Int32) at_27 rfl rfl ?_
    refine C.castore 30 2 (109 : Int32) at_29 rfl Ab1_3 zb1 (by decide) rfl (Nat.le_of_ble_eq_true rfl) rfl ?_
    intro h4 W4 A4
    have Ab1_4 : Al Z h4 b1 .char [.int (99 : Int32), .int (111 : Int32), .int (109 : Int32), .int (0 : Int32), .int (0 : Int32), .int (0 : Int32)] := A4
    have z4 : Z.heap.size ≤ h4.size := by rw [W4.size]; exact z3
    refine C.dup 31 at_30 rfl rfl ?_
    refine C.iconst 32 (3 : Int32) at_31 rfl rfl ?_
    refine C.bipush 34 (109 : Int32) at_32 rfl rfl ?_
    refine C.castore 35 3 (109 : Int32) at_34 rfl Ab1_4 zb1 (by decide) rfl (Nat.le_of_ble_eq_true rfl) rfl ?_
    intro h5 W5 A5
    have Ab1_5 : Al Z h5 b1 .char [.int (99 : Int32), .int (111 : Int32), .int (109 : Int32), .int (109 : Int32), .int (0 : Int32), .int (0 : Int32)] := A5
    have z5 : Z.heap.size ≤ h5.size := by rw [W5.size]; exact z4
    refine C.dup 36 at_35 rfl rfl ?_
    refine C.iconst 37 (4 : Int32) at_36 rfl rfl ?_
    refine C.bipush 39 (105 : Int32) at_37 rfl rfl ?_
    refine C.castore 40 4 (105 : Int32) at_39 rfl Ab1_5 zb1 (by decide) rfl (Nat.le_of_ble_eq_true rfl) rfl ?_
    intro h6 W6 A6
    have Ab1_6 : Al Z h6 b1 .char [.int (99 : Int32), .int (111 : Int32), .int (109 : Int32), .int (109 : Int32), .int (105 : Int32), .int (0 : Int32)] := A6
    have z6 : Z.heap.size ≤ h6.size := by rw [W6.size]; exact z5
    refine C.dup 41 at_40 rfl rfl ?_
    refine C.iconst 42 (5 : Int32) at_41 rfl rfl ?_
    refine C.bipush 44 (116 : Int32) at_42 rfl rfl ?_
    refine C.castore 45 5 (116 : Int32) at_44 rfl Ab1_6 zb1 (by decide) rfl (Nat.le_of_ble_eq_true rfl) rfl ?_
    intro h7 W7 A7
    have Ab1_7 : Al Z h7 b1 .char [.int (99 : Int32), .int (111 : Int32), .int (109 : Int32), .int (109 : Int32), .int (105 : Int32), .int (116 : Int32)] := A7
    have z7 : Z.heap.size ≤ h7.size := by rw [W7.size]; exact z6
    refine C.astoreN 46 #[.val (.int p), .val (.int (0 : Int32)), .val (.ref b1), .unset, .unset, .unset, .unset] at_45 rfl rfl rfl ?_
    refine C.getstatic 49 at_46 rfl (tw 2) S0 ?_
    refine C.astoreN 50 #[.val (.int p), .val (.int (0 : Int32)), .val (.ref b1), .val (.ref e0), .unset, .unset, .unset] at_49 rfl rfl rfl ?_
    refine C.getstatic 53 at_50 rfl (tw 5) SO0 ?_
    refine C.astore 55 #[.val (.int p), .val (.int (0 : Int32)), .val (.ref b1), .val (.ref e0), .val (.ref o0), .unset, .unset] at_53 rfl rfl rfl ?_
    refine C.goto 172 at_55 rfl ?_
    refine C.new 175 at_172 rfl (tw 8) (tw 9) (tw 10) (by decide) (by decide) ?_
    intro h8 E8 X8 D8
    obtain ⟨b8, g8⟩ : ∃ z, z = h7.size := ⟨_, rfl⟩
    rw [← g8] at X8 ⊢
    rw [← g8] at D8
    have z8 : Z.heap.size ≤ h8.size := Nat.le_trans z7 E8.1
    have zb8 : Z.heap.size ≤ b8 := by rw [g8]; exact z7
    show W h8 2 10 175 #[.val (.int p), .val (.int (0 : Int32)), .val (.ref b1), .val (.ref e0), .val (.ref o0), .unset, .unset] [.ref b8]
    clear z0
    refine C.dup 176 at_175 rfl rfl ?_
    refine C.aloadN 177 at_176 rfl rfl rfl ?_
    have NV : Fld Z h8 b8 "java/lang/String" "value" "[B" .null := D8 (Or.inr (hw _ (tw 36))) (ty := (.array .byte)) (by decide)
    have NC : Fld Z h8 b8 "java/lang/String" "coder" "B" (.int (0 : Int32)) := D8 (Or.inr (hw _ (tw 34))) (ty := .byte) (by decide)
    have AC : Al Z h8 b1 .char (iv' tx0) := Ab1_7.ext E8
    refine C.callI 180 (a := b8) (as := [.ref b1]) (rest := [.ref b8]) (rm := ⟨3, 1, 16, 52⟩) 1 at_177 rfl rfl rfl (tw 11) (tw 12) (tw 10) (tw 13) (by decide) (si1 l Z a0' hw h8 b8 b1 zb8 cpt SCP hcp tx0 (by decide) (by decide) (by decide) X8 NV NC AC) pd1 rfl rfl (Nat.le_of_eq rfl) (by decide) (by decide) (by decide) (by decide) rfl ?_
    rintro v h' ⟨b, rfl, gb, K', A1⟩
    show W h' 3 26 180 #[.val (.int p), .val (.int (0 : Int32)), .val (.ref b1), .val (.ref e0), .val (.ref o0), .unset, .unset] [.ref b8]
    refine C.astore 182 #[.val (.int p), .val (.int (0 : Int32)), .val (.ref b1), .val (.ref e0), .val (.ref o0), .val (.ref b8), .unset] at_180 rfl rfl rfl ?_
    refine C.aload 184 at_182 rfl rfl rfl ?_
    refine C.callS 187 (as := [.ref b8]) (rest := []) (rm := ⟨2, 1, 4, 28⟩) 0 at_184 rfl (tw 37) (tw 38) (tw 3) (tw 39) (by decide) (of0 l Z a0' hw _ cpt SCP hcp va SV cl AV XV FV hv e0 t0 c0 F0 T0 u0 e1 t1 c1 F1 T1 u1 e2 t2 c2 F2 T2 u2 b8 b zb8 A1) pd7 rfl rfl (Nat.le_of_eq rfl) (by decide) (by decide) (by decide) (by decide) rfl ?_
    rintro v h2 ⟨rfl, E2⟩
    show W h2 4 30 187 #[.val (.int p), .val (.int (0 : Int32)), .val (.ref b1), .val (.ref e0), .val (.ref o0), .val (.ref b8), .unset] [.ref e0]
    refine C.astore 189 #[.val (.int p), .val (.int (0 : Int32)), .val (.ref b1), .val (.ref e0), .val (.ref o0), .val (.ref b8), .val (.ref e0)] at_187 rfl rfl rfl ?_
    refine C.aload 191 at_189 rfl rfl rfl ?_
    refine C.aloadN 192 at_191 rfl rfl rfl ?_
    refine C.acmpF 195 at_192 rfl rfl rfl (by simp [XT.acmp]) ?_
    refine C.aload 197 at_195 rfl rfl rfl ?_
    refine C.kept fun hE => ?_
    refine C.callV 200 (as := []) (rest := []) (rm := ⟨0, 0, 0, 0⟩) 0 at_197 rfl (tw 69) (tw 70) (tw 72) nfSelf (tw 71) (tw 3) (tw 73) (by decide) (X0.ext hE) (text l Z a0' hw _ e0 t0 F0) pd11 rfl rfl (Nat.le_of_eq rfl) (by decide) (by decide) (by decide) (by decide) rfl ?_
    refine same_intro ?_
    show W h2 4 30 200 #[.val (.int p), .val (.int (0 : Int32)), .val (.ref b1), .val (.ref e0), .val (.ref o0), .val (.ref b8), .val (.ref e0)] [.ref t0]
    refine C.aload 202 at_200 rfl rfl rfl ?_
    have nt : ¬ t0 = b8 := fun q => absurd (T0.1.lt) (by rw [q]; exact Nat.not_lt.mpr zb8)
    refine C.callV 205 (as := [.ref b8]) (rest := []) (rm := ⟨1, 0, 0, 14⟩) 0 at_202 rfl (tw 74) (tw 60) (tw 62) nfSelf (tw 61) (tw 10) (tw 63) (by decide) (T0.1.ext hE) (seq l Z a0' hw _ t0 b8 c0 b nt cpt SCP hcp tx0 tx0 (by decide) (by decide) (T0.ext hE) (A1.ext E2) 1 (by decide)) pd9 rfl rfl (Nat.le_of_eq rfl) (by decide) (by decide) (by decide) (by decide) rfl ?_
    refine same_intro ?_
    show W h2 4 30 205 #[.val (.int p), .val (.int (0 : Int32)), .val (.ref b1), .val (.ref e0), .val (.ref o0), .val (.ref b8), .val (.ref e0)] [.int (1 : Int32)]
    refine C.ifF 208 at_205 rfl (by decide) ?_
    refine C.aload 210 at_208 rfl rfl rfl ?_
    refine C.callV 213 (as := []) (rest := []) (rm := ⟨0, 0, 0, 0⟩) 0 at_210 rfl (tw 75) (tw 76) (tw 78) nfSelf (tw 77) (tw 3) (tw 79) (by decide) (X0.ext hE) (outc l Z a0' hw _ e0 o0 G0) pd12 rfl rfl (Nat.le_of_eq rfl) (by decide) (by decide) (by decide) (by decide) rfl ?_
    refine same_intro ?_
    show W h2 4 30 213 #[.val (.int p), .val (.int (0 : Int32)), .val (.ref b1), .val (.ref e0), .val (.ref o0), .val (.ref b8), .val (.ref e0)] [.ref o0]
    refine C.aload 215 at_213 rfl rfl rfl ?_
    refine C.acmpF 218 at_215 rfl rfl rfl (by simp [XT.acmp]) ?_
    refine C.iconst 219 (1 : Int32) at_218 rfl rfl ?_
    refine C.goto 223 at_219 rfl ?_
    exact C.retI .boolean at_223 rfl (by simp) rfl (by decide) (by decide) rfl
  | 1, _ =>
    show W Z.heap 0 0 7 #[.val (.int p), .val (.int (1 : Int32)), .unset, .unset, .unset, .unset, .unset] []
    refine C.iloadN 8 at_7 rfl rfl ?_
    refine C.ifT 58 at_8 rfl (by decide) ?_
    refine C.iloadN 59 at_58 rfl rfl ?_
    refine C.iconst 60 (1 : Int32) at_59 rfl rfl ?_
    refine C.icmpF 63 at_60 rfl (by decide) ?_
    refine C.bipush 65 (8 : Int32) at_63 rfl rfl ?_
    refine C.newarray 67 8 at_65 rfl (tw 1) (by decide) (by decide) (by decide) (by decide) (by decide) ?_
    intro h1 E1 A1
    obtain ⟨b1, g1⟩ : ∃ z, z = Z.heap.size := ⟨_, rfl⟩
    rw [← g1] at A1 ⊢
    have Ab1_1 : Al Z h1 b1 .char [.int (0 : Int32), .int (0 : Int32), .int (0 : Int32), .int (0 : Int32), .int (0 : Int32), .int (0 : Int32), .int (0 : Int32), .int (0 : Int32)] := A1
    have z1 : Z.heap.size ≤ h1.size := Nat.le_trans z0 E1.1
    have zb1 : Z.heap.size ≤ b1 := by rw [g1]; exact z0
    show W h1 1 8 67 #[.val (.int p), .val (.int (1 : Int32)), .unset, .unset, .unset, .unset, .unset] [.ref b1]
    refine C.dup 68 at_67 rfl rfl ?_
    refine C.iconst 69 (0 : Int32) at_68 rfl rfl ?_
    refine C.bipush 71 (114 : Int32) at_69 rfl rfl ?_
    refine C.castore 72 0 (114 : Int32) at_71 rfl Ab1_1 zb1 (by decide) rfl (Nat.le_of_ble_eq_true rfl) rfl ?_
    intro h2 W2 A2
    have Ab1_2 : Al Z h2 b1 .char [.int (114 : Int32), .int (0 : Int32), .int (0 : Int32), .int (0 : Int32), .int (0 : Int32), .int (0 : Int32), .int (0 : Int32), .int (0 : Int32)] := A2
    have z2 : Z.heap.size ≤ h2.size := by rw [W2.size]; exact z1
    refine C.dup 73 at_72 rfl rfl ?_
    refine C.iconst 74 (1 : Int32) at_73 rfl rfl ?_
    refine C.bipush 76 (111 : Int32) at_74 rfl rfl ?_
    refine C.castore 77 1 (111 : Int32) at_76 rfl Ab1_2 zb1 (by decide) rfl (Nat.le_of_ble_eq_true rfl) rfl ?_
    intro h3 W3 A3
    have Ab1_3 : Al Z h3 b1 .char [.int (114 : Int32), .int (111 : Int32), .int (0 : Int32), .int (0 : Int32), .int (0 : Int32), .int (0 : Int32), .int (0 : Int32), .int (0 : Int32)] := A3
    have z3 : Z.heap.size ≤ h3.size := by rw [W3.size]; exact z2
    refine C.dup 78 at_77 rfl rfl ?_
    refine C.iconst 79 (2 : Int32) at_78 rfl rfl ?_
    refine C.bipush 81 (108 : Int32) at_79 rfl rfl ?_
    refine C.castore 82 2 (108 : Int32) at_81 rfl Ab1_3 zb1 (by decide) rfl (Nat.le_of_ble_eq_true rfl) rfl ?_
    intro h4 W4 A4
    have Ab1_4 : Al Z h4 b1 .char [.int (114 : Int32), .int (111 : Int32), .int (108 : Int32), .int (0 : Int32), .int (0 : Int32), .int (0 : Int32), .int (0 : Int32), .int (0 : Int32)] := A4
    have z4 : Z.heap.size ≤ h4.size := by rw [W4.size]; exact z3
    refine C.dup 83 at_82 rfl rfl ?_
    refine C.iconst 84 (3 : Int32) at_83 rfl rfl ?_
    refine C.bipush 86 (108 : Int32) at_84 rfl rfl ?_
    refine C.castore 87 3 (108 : Int32) at_86 rfl Ab1_4 zb1 (by decide) rfl (Nat.le_of_ble_eq_true rfl) rfl ?_
    intro h5 W5 A5
    have Ab1_5 : Al Z h5 b1 .char [.int (114 : Int32), .int (111 : Int32), .int (108 : Int32), .int (108 : Int32), .int (0 : Int32), .int (0 : Int32), .int (0 : Int32), .int (0 : Int32)] := A5
    have z5 : Z.heap.size ≤ h5.size := by rw [W5.size]; exact z4
    refine C.dup 88 at_87 rfl rfl ?_
    refine C.iconst 89 (4 : Int32) at_88 rfl rfl ?_
    refine C.bipush 91 (98 : Int32) at_89 rfl rfl ?_
    refine C.castore 92 4 (98 : Int32) at_91 rfl Ab1_5 zb1 (by decide) rfl (Nat.le_of_ble_eq_true rfl) rfl ?_
    intro h6 W6 A6
    have Ab1_6 : Al Z h6 b1 .char [.int (114 : Int32), .int (111 : Int32), .int (108 : Int32), .int (108 : Int32), .int (98 : Int32), .int (0 : Int32), .int (0 : Int32), .int (0 : Int32)] := A6
    have z6 : Z.heap.size ≤ h6.size := by rw [W6.size]; exact z5
    refine C.dup 93 at_92 rfl rfl ?_
    refine C.iconst 94 (5 : Int32) at_93 rfl rfl ?_
    refine C.bipush 96 (97 : Int32) at_94 rfl rfl ?_
    refine C.castore 97 5 (97 : Int32) at_96 rfl Ab1_6 zb1 (by decide) rfl (Nat.le_of_ble_eq_true rfl) rfl ?_
    intro h7 W7 A7
    have Ab1_7 : Al Z h7 b1 .char [.int (114 : Int32), .int (111 : Int32), .int (108 : Int32), .int (108 : Int32), .int (98 : Int32), .int (97 : Int32), .int (0 : Int32), .int (0 : Int32)] := A7
    have z7 : Z.heap.size ≤ h7.size := by rw [W7.size]; exact z6
    refine C.dup 98 at_97 rfl rfl ?_
    refine C.bipush 100 (6 : Int32) at_98 rfl rfl ?_
    refine C.bipush 102 (99 : Int32) at_100 rfl rfl ?_
    refine C.castore 103 6 (99 : Int32) at_102 rfl Ab1_7 zb1 (by decide) rfl (Nat.le_of_ble_eq_true rfl) rfl ?_
    intro h8 W8 A8
    have Ab1_8 : Al Z h8 b1 .char [.int (114 : Int32), .int (111 : Int32), .int (108 : Int32), .int (108 : Int32), .int (98 : Int32), .int (97 : Int32), .int (99 : Int32), .int (0 : Int32)] := A8
    have z8 : Z.heap.size ≤ h8.size := by rw [W8.size]; exact z7
    refine C.dup 104 at_103 rfl rfl ?_
    refine C.bipush 106 (7 : Int32) at_104 rfl rfl ?_
    refine C.bipush 108 (107 : Int32) at_106 rfl rfl ?_
    refine C.castore 109 7 (107 : Int32) at_108 rfl Ab1_8 zb1 (by decide) rfl (Nat.le_of_ble_eq_true rfl) rfl ?_
    intro h9 W9 A9
    have Ab1_9 : Al Z h9 b1 .char [.int (114 : Int32), .int (111 : Int32), .int (108 : Int32), .int (108 : Int32), .int (98 : Int32), .int (97 : Int32), .int (99 : Int32), .int (107 : Int32)] := A9
    have z9 : Z.heap.size ≤ h9.size := by rw [W9.size]; exact z8
    refine C.astoreN 110 #[.val (.int p), .val (.int (1 : Int32)), .val (.ref b1), .unset, .unset, .unset, .unset] at_109 rfl rfl rfl ?_
    refine C.getstatic 113 at_110 rfl (tw 85) S1 ?_
    refine C.astoreN 114 #[.val (.int p), .val (.int (1 : Int32)), .val (.ref b1), .val (.ref e1), .unset, .unset, .unset] at_113 rfl rfl rfl ?_
    refine C.getstatic 117 at_114 rfl (tw 86) SO1 ?_
    refine C.astore 119 #[.val (.int p), .val (.int (1 : Int32)), .val (.ref b1), .val (.ref e1), .val (.ref o1), .unset, .unset] at_117 rfl rfl rfl ?_
    refine C.goto 172 at_119 rfl ?_
    refine C.new 175 at_172 rfl (tw 8) (tw 9) (tw 10) (by decide) (by decide) ?_
    intro h10 E10 X10 D10
    obtain ⟨b10, g10⟩ : ∃ z, z = h9.size := ⟨_, rfl⟩
    rw [← g10] at X10 ⊢
    rw [← g10] at D10
    have z10 : Z.heap.size ≤ h10.size := Nat.le_trans z9 E10.1
    have zb10 : Z.heap.size ≤ b10 := by rw [g10]; exact z9
    show W h10 2 12 175 #[.val (.int p), .val (.int (1 : Int32)), .val (.ref b1), .val (.ref e1), .val (.ref o1), .unset, .unset] [.ref b10]
    clear z0
    refine C.dup 176 at_175 rfl rfl ?_
    refine C.aloadN 177 at_176 rfl rfl rfl ?_
    have NV : Fld Z h10 b10 "java/lang/String" "value" "[B" .null := D10 (Or.inr (hw _ (tw 36))) (ty := (.array .byte)) (by decide)
    have NC : Fld Z h10 b10 "java/lang/String" "coder" "B" (.int (0 : Int32)) := D10 (Or.inr (hw _ (tw 34))) (ty := .byte) (by decide)
    have AC : Al Z h10 b1 .char (iv' tx1) := Ab1_9.ext E10
    refine C.callI 180 (a := b10) (as := [.ref b1]) (rest := [.ref b10]) (rm := ⟨3, 1, 16, 52⟩) 1 at_177 rfl rfl rfl (tw 11) (tw 12) (tw 10) (tw 13) (by decide) (si1 l Z a0' hw h10 b10 b1 zb10 cpt SCP hcp tx1 (by decide) (by decide) (by decide) X10 NV NC AC) pd1 rfl rfl (Nat.le_of_eq rfl) (by decide) (by decide) (by decide) (by decide) rfl ?_
    rintro v h' ⟨b, rfl, gb, K', A1⟩
    show W h' 3 28 180 #[.val (.int p), .val (.int (1 : Int32)), .val (.ref b1), .val (.ref e1), .val (.ref o1), .unset, .unset] [.ref b10]
    refine C.astore 182 #[.val (.int p), .val (.int (1 : Int32)), .val (.ref b1), .val (.ref e1), .val (.ref o1), .val (.ref b10), .unset] at_180 rfl rfl rfl ?_
    refine C.aload 184 at_182 rfl rfl rfl ?_
    refine C.callS 187 (as := [.ref b10]) (rest := []) (rm := ⟨2, 1, 4, 28⟩) 0 at_184 rfl (tw 37) (tw 38) (tw 3) (tw 39) (by decide) (of1 l Z a0' hw _ cpt SCP hcp va SV cl AV XV FV hv e0 t0 c0 F0 T0 u0 e1 t1 c1 F1 T1 u1 e2 t2 c2 F2 T2 u2 b10 b zb10 A1) pd7 rfl rfl (Nat.le_of_eq rfl) (by decide) (by decide) (by decide) (by decide) rfl ?_
    rintro v h2 ⟨rfl, E2⟩
    show W h2 4 32 187 #[.val (.int p), .val (.int (1 : Int32)), .val (.ref b1), .val (.ref e1), .val (.ref o1), .val (.ref b10), .unset] [.ref e1]
    refine C.astore 189 #[.val (.int p), .val (.int (1 : Int32)), .val (.ref b1), .val (.ref e1), .val (.ref o1), .val (.ref b10), .val (.ref e1)] at_187 rfl rfl rfl ?_
    refine C.aload 191 at_189 rfl rfl rfl ?_
    refine C.aloadN 192 at_191 rfl rfl rfl ?_
    refine C.acmpF 195 at_192 rfl rfl rfl (by simp [XT.acmp]) ?_
    refine C.aload 197 at_195 rfl rfl rfl ?_
    refine C.kept fun hE => ?_
    refine C.callV 200 (as := []) (rest := []) (rm := ⟨0, 0, 0, 0⟩) 0 at_197 rfl (tw 69) (tw 70) (tw 72) nfSelf (tw 71) (tw 3) (tw 73) (by decide) (X1.ext hE) (text l Z a0' hw _ e1 t1 F1) pd11 rfl rfl (Nat.le_of_eq rfl) (by decide) (by decide) (by decide) (by decide) rfl ?_
    refine same_intro ?_
    show W h2 4 32 200 #[.val (.int p), .val (.int (1 : Int32)), .val (.ref b1), .val (.ref e1), .val (.ref o1), .val (.ref b10), .val (.ref e1)] [.ref t1]
    refine C.aload 202 at_200 rfl rfl rfl ?_
    have nt : ¬ t1 = b10 := fun q => absurd (T1.1.lt) (by rw [q]; exact Nat.not_lt.mpr zb10)
    refine C.callV 205 (as := [.ref b10]) (rest := []) (rm := ⟨1, 0, 0, 14⟩) 0 at_202 rfl (tw 74) (tw 60) (tw 62) nfSelf (tw 61) (tw 10) (tw 63) (by decide) (T1.1.ext hE) (seq l Z a0' hw _ t1 b10 c1 b nt cpt SCP hcp tx1 tx1 (by decide) (by decide) (T1.ext hE) (A1.ext E2) 1 (by decide)) pd9 rfl rfl (Nat.le_of_eq rfl) (by decide) (by decide) (by decide) (by decide) rfl ?_
    refine same_intro ?_
    show W h2 4 32 205 #[.val (.int p), .val (.int (1 : Int32)), .val (.ref b1), .val (.ref e1), .val (.ref o1), .val (.ref b10), .val (.ref e1)] [.int (1 : Int32)]
    refine C.ifF 208 at_205 rfl (by decide) ?_
    refine C.aload 210 at_208 rfl rfl rfl ?_
    refine C.callV 213 (as := []) (rest := []) (rm := ⟨0, 0, 0, 0⟩) 0 at_210 rfl (tw 75) (tw 76) (tw 78) nfSelf (tw 77) (tw 3) (tw 79) (by decide) (X1.ext hE) (outc l Z a0' hw _ e1 o1 G1) pd12 rfl rfl (Nat.le_of_eq rfl) (by decide) (by decide) (by decide) (by decide) rfl ?_
    refine same_intro ?_
    show W h2 4 32 213 #[.val (.int p), .val (.int (1 : Int32)), .val (.ref b1), .val (.ref e1), .val (.ref o1), .val (.ref b10), .val (.ref e1)] [.ref o1]
    refine C.aload 215 at_213 rfl rfl rfl ?_
    refine C.acmpF 218 at_215 rfl rfl rfl (by simp [XT.acmp]) ?_
    refine C.iconst 219 (1 : Int32) at_218 rfl rfl ?_
    refine C.goto 223 at_219 rfl ?_
    exact C.retI .boolean at_223 rfl (by simp) rfl (by decide) (by decide) rfl
  | 2, _ =>
    show W Z.heap 0 0 7 #[.val (.int p), .val (.int (2 : Int32)), .unset, .unset, .unset, .unset, .unset] []
    refine C.iloadN 8 at_7 rfl rfl ?_
    refine C.ifT 58 at_8 rfl (by decide) ?_
    refine C.iloadN 59 at_58 rfl rfl ?_
    refine C.iconst 60 (1 : Int32) at_59 rfl rfl ?_
    refine C.icmpT 122 at_60 rfl (by decide) ?_
    refine C.bipush 124 (7 : Int32) at_122 rfl rfl ?_
    refine C.newarray 126 7 at_124 rfl (tw 1) (by decide) (by decide) (by decide) (by decide) (by decide) ?_
    intro h1 E1 A1
    obtain ⟨b1, g1⟩ : ∃ z, z = Z.heap.size := ⟨_, rfl⟩
    rw [← g1] at A1 ⊢
    have Ab1_1 : Al Z h1 b1 .char [.int (0 : Int32), .int (0 : Int32), .int (0 : Int32), .int (0 : Int32), .int (0 : Int32), .int (0 : Int32), .int (0 : Int32)] := A1
    have z1 : Z.heap.size ≤ h1.size := Nat.le_trans z0 E1.1
    have zb1 : Z.heap.size ≤ b1 := by rw [g1]; exact z0
    show W h1 1 7 126 #[.val (.int p), .val (.int (2 : Int32)), .unset, .unset, .unset, .unset, .unset] [.ref b1]
    refine C.dup 127 at_126 rfl rfl ?_
    refine C.iconst 128 (0 : Int32) at_127 rfl rfl ?_
    refine C.bipush 130 (117 : Int32) at_128 rfl rfl ?_
    refine C.castore 131 0 (117 : Int32) at_130 rfl Ab1_1 zb1 (by decide) rfl (Nat.le_of_ble_eq_true rfl) rfl ?_
    intro h2 W2 A2
    have Ab1_2 : Al Z h2 b1 .char [.int (117 : Int32), .int (0 : Int32), .int (0 : Int32), .int (0 : Int32), .int (0 : Int32), .int (0 : Int32), .int (0 : Int32)] := A2
    have z2 : Z.heap.size ≤ h2.size := by rw [W2.size]; exact z1
    refine C.dup 132 at_131 rfl rfl ?_
    refine C.iconst 133 (1 : Int32) at_132 rfl rfl ?_
    refine C.bipush 135 (110 : Int32) at_133 rfl rfl ?_
    refine C.castore 136 1 (110 : Int32) at_135 rfl Ab1_2 zb1 (by decide) rfl (Nat.le_of_ble_eq_true rfl) rfl ?_
    intro h3 W3 A3
    have Ab1_3 : Al Z h3 b1 .char [.int (117 : Int32), .int (110 : Int32), .int (0 : Int32), .int (0 : Int32), .int (0 : Int32), .int (0 : Int32), .int (0 : Int32)] := A3
    have z3 : Z.heap.size ≤ h3.size := by rw [W3.size]; exact z2
    refine C.dup 137 at_136 rfl rfl ?_
    refine C.iconst 138 (2 : Int32) at_137 rfl rfl ?_
    refine C.bipush 140 (107 : Int32) at_138 rfl rfl ?_
    refine C.castore 141 2 (107 : Int32) at_140 rfl Ab1_3 zb1 (by decide) rfl (Nat.le_of_ble_eq_true rfl) rfl ?_
    intro h4 W4 A4
    have Ab1_4 : Al Z h4 b1 .char [.int (117 : Int32), .int (110 : Int32), .int (107 : Int32), .int (0 : Int32), .int (0 : Int32), .int (0 : Int32), .int (0 : Int32)] := A4
    have z4 : Z.heap.size ≤ h4.size := by rw [W4.size]; exact z3
    refine C.dup 142 at_141 rfl rfl ?_
    refine C.iconst 143 (3 : Int32) at_142 rfl rfl ?_
    refine C.bipush 145 (110 : Int32) at_143 rfl rfl ?_
    refine C.castore 146 3 (110 : Int32) at_145 rfl Ab1_4 zb1 (by decide) rfl (Nat.le_of_ble_eq_true rfl) rfl ?_
    intro h5 W5 A5
    have Ab1_5 : Al Z h5 b1 .char [.int (117 : Int32), .int (110 : Int32), .int (107 : Int32), .int (110 : Int32), .int (0 : Int32), .int (0 : Int32), .int (0 : Int32)] := A5
    have z5 : Z.heap.size ≤ h5.size := by rw [W5.size]; exact z4
    refine C.dup 147 at_146 rfl rfl ?_
    refine C.iconst 148 (4 : Int32) at_147 rfl rfl ?_
    refine C.bipush 150 (111 : Int32) at_148 rfl rfl ?_
    refine C.castore 151 4 (111 : Int32) at_150 rfl Ab1_5 zb1 (by decide) rfl (Nat.le_of_ble_eq_true rfl) rfl ?_
    intro h6 W6 A6
    have Ab1_6 : Al Z h6 b1 .char [.int (117 : Int32), .int (110 : Int32), .int (107 : Int32), .int (110 : Int32), .int (111 : Int32), .int (0 : Int32), .int (0 : Int32)] := A6
    have z6 : Z.heap.size ≤ h6.size := by rw [W6.size]; exact z5
    refine C.dup 152 at_151 rfl rfl ?_
    refine C.iconst 153 (5 : Int32) at_152 rfl rfl ?_
    refine C.bipush 155 (119 : Int32) at_153 rfl rfl ?_
    refine C.castore 156 5 (119 : Int32) at_155 rfl Ab1_6 zb1 (by decide) rfl (Nat.le_of_ble_eq_true rfl) rfl ?_
    intro h7 W7 A7
    have Ab1_7 : Al Z h7 b1 .char [.int (117 : Int32), .int (110 : Int32), .int (107 : Int32), .int (110 : Int32), .int (111 : Int32), .int (119 : Int32), .int (0 : Int32)] := A7
    have z7 : Z.heap.size ≤ h7.size := by rw [W7.size]; exact z6
    refine C.dup 157 at_156 rfl rfl ?_
    refine C.bipush 159 (6 : Int32) at_157 rfl rfl ?_
    refine C.bipush 161 (110 : Int32) at_159 rfl rfl ?_
    refine C.castore 162 6 (110 : Int32) at_161 rfl Ab1_7 zb1 (by decide) rfl (Nat.le_of_ble_eq_true rfl) rfl ?_
    intro h8 W8 A8
    have Ab1_8 : Al Z h8 b1 .char [.int (117 : Int32), .int (110 : Int32), .int (107 : Int32), .int (110 : Int32), .int (111 : Int32), .int (119 : Int32), .int (110 : Int32)] := A8
    have z8 : Z.heap.size ≤ h8.size := by rw [W8.size]; exact z7
    refine C.astoreN 163 #[.val (.int p), .val (.int (2 : Int32)), .val (.ref b1), .unset, .unset, .unset, .unset] at_162 rfl rfl rfl ?_
    refine C.getstatic 166 at_163 rfl (tw 82) S2 ?_
    refine C.astoreN 167 #[.val (.int p), .val (.int (2 : Int32)), .val (.ref b1), .val (.ref e2), .unset, .unset, .unset] at_166 rfl rfl rfl ?_
    refine C.getstatic 170 at_167 rfl (tw 83) SO2 ?_
    refine C.astore 172 #[.val (.int p), .val (.int (2 : Int32)), .val (.ref b1), .val (.ref e2), .val (.ref o2), .unset, .unset] at_170 rfl rfl rfl ?_
    refine C.new 175 at_172 rfl (tw 8) (tw 9) (tw 10) (by decide) (by decide) ?_
    intro h9 E9 X9 D9
    obtain ⟨b9, g9⟩ : ∃ z, z = h8.size := ⟨_, rfl⟩
    rw [← g9] at X9 ⊢
    rw [← g9] at D9
    have z9 : Z.heap.size ≤ h9.size := Nat.le_trans z8 E9.1
    have zb9 : Z.heap.size ≤ b9 := by rw [g9]; exact z8
    show W h9 2 11 175 #[.val (.int p), .val (.int (2 : Int32)), .val (.ref b1), .val (.ref e2), .val (.ref o2), .unset, .unset] [.ref b9]
    clear z0
    refine C.dup 176 at_175 rfl rfl ?_
    refine C.aloadN 177 at_176 rfl rfl rfl ?_
    have NV : Fld Z h9 b9 "java/lang/String" "value" "[B" .null := D9 (Or.inr (hw _ (tw 36))) (ty := (.array .byte)) (by decide)
    have NC : Fld Z h9 b9 "java/lang/String" "coder" "B" (.int (0 : Int32)) := D9 (Or.inr (hw _ (tw 34))) (ty := .byte) (by decide)
    have AC : Al Z h9 b1 .char (iv' tx2) := Ab1_8.ext E9
    refine C.callI 180 (a := b9) (as := [.ref b1]) (rest := [.ref b9]) (rm := ⟨3, 1, 16, 52⟩) 1 at_177 rfl rfl rfl (tw 11) (tw 12) (tw 10) (tw 13) (by decide) (si1 l Z a0' hw h9 b9 b1 zb9 cpt SCP hcp tx2 (by decide) (by decide) (by decide) X9 NV NC AC) pd1 rfl rfl (Nat.le_of_eq rfl) (by decide) (by decide) (by decide) (by decide) rfl ?_
    rintro v h' ⟨b, rfl, gb, K', A1⟩
    show W h' 3 27 180 #[.val (.int p), .val (.int (2 : Int32)), .val (.ref b1), .val (.ref e2), .val (.ref o2), .unset, .unset] [.ref b9]
    refine C.astore 182 #[.val (.int p), .val (.int (2 : Int32)), .val (.ref b1), .val (.ref e2), .val (.ref o2), .val (.ref b9), .unset] at_180 rfl rfl rfl ?_
    refine C.aload 184 at_182 rfl rfl rfl ?_
    refine C.callS 187 (as := [.ref b9]) (rest := []) (rm := ⟨2, 1, 4, 28⟩) 0 at_184 rfl (tw 37) (tw 38) (tw 3) (tw 39) (by decide) (of2 l Z a0' hw _ cpt SCP hcp va SV cl AV XV FV hv e0 t0 c0 F0 T0 u0 e1 t1 c1 F1 T1 u1 e2 t2 c2 F2 T2 u2 b9 b zb9 A1) pd7 rfl rfl (Nat.le_of_eq rfl) (by decide) (by decide) (by decide) (by decide) rfl ?_
    rintro v h2 ⟨rfl, E2⟩
    show W h2 4 31 187 #[.val (.int p), .val (.int (2 : Int32)), .val (.ref b1), .val (.ref e2), .val (.ref o2), .val (.ref b9), .unset] [.ref e2]
    refine C.astore 189 #[.val (.int p), .val (.int (2 : Int32)), .val (.ref b1), .val (.ref e2), .val (.ref o2), .val (.ref b9), .val (.ref e2)] at_187 rfl rfl rfl ?_
    refine C.aload 191 at_189 rfl rfl rfl ?_
    refine C.aloadN 192 at_191 rfl rfl rfl ?_
    refine C.acmpF 195 at_192 rfl rfl rfl (by simp [XT.acmp]) ?_
    refine C.aload 197 at_195 rfl rfl rfl ?_
    refine C.kept fun hE => ?_
    refine C.callV 200 (as := []) (rest := []) (rm := ⟨0, 0, 0, 0⟩) 0 at_197 rfl (tw 69) (tw 70) (tw 72) nfSelf (tw 71) (tw 3) (tw 73) (by decide) (X2.ext hE) (text l Z a0' hw _ e2 t2 F2) pd11 rfl rfl (Nat.le_of_eq rfl) (by decide) (by decide) (by decide) (by decide) rfl ?_
    refine same_intro ?_
    show W h2 4 31 200 #[.val (.int p), .val (.int (2 : Int32)), .val (.ref b1), .val (.ref e2), .val (.ref o2), .val (.ref b9), .val (.ref e2)] [.ref t2]
    refine C.aload 202 at_200 rfl rfl rfl ?_
    have nt : ¬ t2 = b9 := fun q => absurd (T2.1.lt) (by rw [q]; exact Nat.not_lt.mpr zb9)
    refine C.callV 205 (as := [.ref b9]) (rest := []) (rm := ⟨1, 0, 0, 14⟩) 0 at_202 rfl (tw 74) (tw 60) (tw 62) nfSelf (tw 61) (tw 10) (tw 63) (by decide) (T2.1.ext hE) (seq l Z a0' hw _ t2 b9 c2 b nt cpt SCP hcp tx2 tx2 (by decide) (by decide) (T2.ext hE) (A1.ext E2) 1 (by decide)) pd9 rfl rfl (Nat.le_of_eq rfl) (by decide) (by decide) (by decide) (by decide) rfl ?_
    refine same_intro ?_
    show W h2 4 31 205 #[.val (.int p), .val (.int (2 : Int32)), .val (.ref b1), .val (.ref e2), .val (.ref o2), .val (.ref b9), .val (.ref e2)] [.int (1 : Int32)]
    refine C.ifF 208 at_205 rfl (by decide) ?_
    refine C.aload 210 at_208 rfl rfl rfl ?_
    refine C.callV 213 (as := []) (rest := []) (rm := ⟨0, 0, 0, 0⟩) 0 at_210 rfl (tw 75) (tw 76) (tw 78) nfSelf (tw 77) (tw 3) (tw 79) (by decide) (X2.ext hE) (outc l Z a0' hw _ e2 o2 G2) pd12 rfl rfl (Nat.le_of_eq rfl) (by decide) (by decide) (by decide) (by decide) rfl ?_
    refine same_intro ?_
    show W h2 4 31 213 #[.val (.int p), .val (.int (2 : Int32)), .val (.ref b1), .val (.ref e2), .val (.ref o2), .val (.ref b9), .val (.ref e2)] [.ref o2]
    refine C.aload 215 at_213 rfl rfl rfl ?_
    refine C.acmpF 218 at_215 rfl rfl rfl (by simp [XT.acmp]) ?_
    refine C.iconst 219 (1 : Int32) at_218 rfl rfl ?_
    refine C.goto 223 at_219 rfl ?_
    exact C.retI .boolean at_223 rfl (by simp) rfl (by decide) (by decide) rfl
  | n + 3, h => exact absurd h (by omega)
theorem len_al {s : State} {args : Array Value} {t : Term} {a : Addr} {ty : FieldType} {z : Int32} (e : t.eval args s none [] s = some (.ref a)) (h0 : (Jvm.Cond.arrayOf t ty).value args s none s [] = some true) (h1 : (Jvm.Cond.eq (Jvm.Term.length t) (Jvm.Term.int z)).value args s none s [] = some true) : ∃ c : Cell, Arr s s.heap a c ty ∧ (c.slots.size : Int) = z.toInt := by
  obtain ⟨c, A⟩ := Arr.start e h0
  have ha := A.fin (Vm.Alike.refl _)
  refine ⟨c, A, ?_⟩
  by_cases hl : c.slots.size < 2 ^ 31
  · have q := len_f e ha hl
    have r : c.slots.size.toInt32 = z := gotT (Cond.eq_ints q (Term.int_eval (z))) h1
    rw [← r, len_toInt hl]
  · simp [Cond.value, Term.eval, e, ha, hl] at h1
theorem elem_int {s : State} {args : Array Value} {t : Term} {a : Addr} {c : Cell} {ty : FieldType} {j z : Int32} (e : t.eval args s none [] s = some (.ref a)) (A : Arr s s.heap a c ty) (hj : ¬ j < 0) (h : (Jvm.Cond.eq (Jvm.Term.elem t (Jvm.Term.int j)) (Jvm.Term.int z)).value args s none s [] = some true) : c.slots[j.toNatClampNeg]? = some (.int z) :=
  (elem_f e (Term.int_eval (j)) (A.fin (Vm.Alike.refl _)) hj).symm.trans (eqv_i (Term.int_eval (z)) h)
theorem elem_ref {s : State} {args : Array Value} {t X : Term} {a x : Addr} {c : Cell} {ty : FieldType} {j : Int32} (e : t.eval args s none [] s = some (.ref a)) (ex : X.eval args s none [] s = some (.ref x)) (A : Arr s s.heap a c ty) (hj : ¬ j < 0) (h : (Jvm.Cond.eq (Jvm.Term.elem t (Jvm.Term.int j)) X).value args s none s [] = some true) : c.slots[j.toNatClampNeg]? = some (.ref x) := by
  have q := elem_f e (Term.int_eval (j)) (A.fin (Vm.Alike.refl _)) hj
  obtain ⟨u, v, e1, e2, k1, k2⟩ := cmp_v (Or.inl h)
  cases ex.symm.trans e2
  rw [← q, e1]
  rw [e1] at q
  simp only [Cond.value, e1, ex] at h
  cases u <;> simp_all
def Els (args : Array Value) (s : State) (t : Term) : Nat → List Int32 → Prop
  | _, [] => True
  | i, z :: zs => (Jvm.Cond.eq (Jvm.Term.elem t (Jvm.Term.int (Int32.ofNat i))) (Jvm.Term.int z)).value args s none s [] = some true ∧ Els args s t (i + 1) zs
theorem Els.at {args : Array Value} {s : State} {t : Term} {a : Addr} {c : Cell} {ty : FieldType} (e : t.eval args s none [] s = some (.ref a)) (A : Arr s s.heap a c ty) : ∀ (zs : List Int32) (i : Nat), i + zs.length < 2 ^ 31 → Els args s t i zs → ∀ k, k < zs.length → c.slots[i + k]? = (zs.map Value.int)[k]?
  | [], _, _, _, k, hk => absurd hk (Nat.not_lt_zero _)
  | z :: zs, i, hi, h, 0, _ => by
    have hi' : i < 2 ^ 31 := by simp only [List.length_cons] at hi; omega
    have q := elem_int e A (o_nn hi') h.1
    rw [o_cl hi'] at q
    simpa using q
  | z :: zs, i, hi, h, k + 1, hk => by
    have q := Els.at e A zs (i + 1) (by simp only [List.length_cons] at hi; omega) h.2 k (by simpa using hk)
    rw [show i + (k + 1) = i + 1 + k by omega, q]; simp
theorem str_old {s : State} {args : Array Value} {X : Term} {e : Addr} {cls : String} {bs : List Int32} {z : Int32} (hf : Fit s) (ev : X.eval args s none [] s = some (.ref e)) (h1 : (Jvm.Cond.exactly (Jvm.Term.field X cls "text" "Ljava/lang/String;") "java/lang/String").value args s none s [] = some true) (h2 : (Jvm.Cond.eq (Jvm.Term.field (Jvm.Term.field X cls "text" "Ljava/lang/String;") "java/lang/String" "coder" "B") (Jvm.Term.int (0 : Int32))).value args s none s [] = some true)
    (h3 : (Jvm.Cond.arrayOf (Jvm.Term.field (Jvm.Term.field X cls "text" "Ljava/lang/String;") "java/lang/String" "value" "[B") .byte).value args s none s [] = some true) (h4 : (Jvm.Cond.eq (Jvm.Term.length (Jvm.Term.field (Jvm.Term.field X cls "text" "Ljava/lang/String;") "java/lang/String" "value" "[B")) (Jvm.Term.int z)).value args s none s [] = some true) (hz : z.toInt = (bs.length : Int)) (h5 : Els args s (Jvm.Term.field (Jvm.Term.field X cls "text" "Ljava/lang/String;") "java/lang/String" "value" "[B") 0 bs) :
    ∃ t c, Fld s s.heap e cls "text" "Ljava/lang/String;" (.ref t) ∧ StrL s s.heap t c bs := by
  obtain ⟨t, et⟩ := exa_v h1
  obtain ⟨c, ec⟩ := arr_v h3
  obtain ⟨cl, A, hl⟩ := len_al ec h3 h4
  have hz' : cl.slots.size = bs.length := by omega
  have hb : bs.length < 2 ^ 31 := by have := Int32.toInt_lt z; omega
  refine ⟨t, c, Fld.start ((fld_at ev).symm.trans et), Exa.start et h1, Fld.start ((fld_at et).symm.trans ec), Fld.start ((fld_at et).symm.trans (eqv_i (Term.int_eval (0)) h2)), cl, A, ?_⟩
  apply List.ext_getElem?
  intro i
  rw [← list_at rfl i]
  by_cases hi : i < bs.length
  · have q := Els.at ec A bs 0 (by omega) h5 i hi
    rw [Nat.zero_add] at q; exact q
  · rw [Array.getElem?_eq_none (by omega), List.getElem?_eq_none (by simp; omega)]
theorem fld_ref {s : State} {args : Array Value} {t X : Term} {a x : Addr} {C f d : String} (e : t.eval args s none [] s = some (.ref a)) (ex : X.eval args s none [] s = some (.ref x)) (h : (Jvm.Cond.eq (Jvm.Term.field t C f d) X).value args s none s [] = some true) : Fld s s.heap a C f d (.ref x) := by
  refine Fld.start ((fld_at e).symm.trans ?_)
  obtain ⟨u, v, e1, e2, k1, k2⟩ := cmp_v (Or.inl h)
  cases ex.symm.trans e2
  rw [e1]
  simp only [Cond.value, e1, ex] at h
  cases u <;> simp_all
set_option maxRecDepth 65536 in
set_option maxHeartbeats 40000000 in
theorem comes_1 {Post : Tables → Env → Array Value → State → Outcome → State → Prop} (hpost : ∀ tb e args s v u, (limb_1_1.after args s (.returned v) u = true ∧ limb_1_2.after args s (.returned v) u = true ∧ True) → FrameEnd s (.returned v) u (Jvm.fieldLocs frame_1_writes args s ++ Jvm.arrayLocs frame_1_arrays args s ++ Jvm.staticLocs frame_1_statics s) 16 128 → Post tb e args s (.returned v) u) :
    ArmFor flags0 classFile x code maxLocals ret World_1 tables_1 room_1 Calls_1 rest_1 Pre_1 Post := by
  intro l hfl _ _ p e ha hc hk s m args below hf hA hF happ hP
  obtain ⟨hcalls, hrest, hpre⟩ := hP
  obtain ⟨-, -, -, hnamed, -, -, -, hat⟩ := (Spec.applies_iff hf).mp happ
  obtain ⟨hg, hn⟩ := and_e (Cond.before_iff.mp (show (Jvm.Cond.and given_1 narrow_1).before args s = true from hpre))
  obtain ⟨h1, h2⟩ := and_e hg
  obtain ⟨w0, rfl⟩ : ∃ w0 : Value, args = #[w0] := by
    have hs : args.size = 1 := by simpa [Cond.value, given_1] using h1
    obtain ⟨L⟩ := args
    match L, hs with
    | [w0], _ => exact ⟨w0, rfl⟩
  have hw := fun d (hd : d ∈ tables_1) => atoms_spec (ws := Jvm.Cond.code x code maxLocals ret :: tables_1) hat d (List.mem_cons_of_mem _ hd)
  have hfit : Fit s := fun {y c} hc i hi => by
    obtain ⟨ha, rfl⟩ := Array.getElem?_eq_some_iff.mp hc
    have q := List.all_eq_true.mp ((Array.all_eq_true_iff_forall_mem.mp hF) _ (Array.getElem_mem ha)) i (List.mem_range.mpr hi)
    simpa [Array.getElem?_eq_getElem hi] using q
  obtain ⟨i0, e0⟩ := is_v h2
  obtain rfl : w0 = (.int i0) := Option.some.inj e0
  obtain ⟨n0, hn⟩ := and_e hn
  obtain ⟨n1, hn⟩ := and_e hn
  obtain ⟨n2, hn⟩ := and_e hn
  obtain ⟨n3, hn⟩ := and_e hn
  obtain ⟨n4, hn⟩ := and_e hn
  obtain ⟨n5, hn⟩ := and_e hn
  obtain ⟨n6, hn⟩ := and_e hn
  obtain ⟨n7, hn⟩ := and_e hn
  obtain ⟨n8, hn⟩ := and_e hn
  obtain ⟨n9, hn⟩ := and_e hn
  obtain ⟨n10, hn⟩ := and_e hn
  obtain ⟨n11, hn⟩ := and_e hn
  obtain ⟨n12, hn⟩ := and_e hn
  obtain ⟨n13, hn⟩ := and_e hn
  obtain ⟨n14, hn⟩ := and_e hn
  obtain ⟨n15, hn⟩ := and_e hn
  obtain ⟨n16, hn⟩ := and_e hn
  obtain ⟨n17, hn⟩ := and_e hn
  obtain ⟨n18, hn⟩ := and_e hn
  obtain ⟨n19, hn⟩ := and_e hn
  obtain ⟨n20, hn⟩ := and_e hn
  obtain ⟨n21, hn⟩ := and_e hn
  obtain ⟨n22, hn⟩ := and_e hn
  obtain ⟨n23, hn⟩ := and_e hn
  obtain ⟨n24, hn⟩ := and_e hn
  obtain ⟨n25, hn⟩ := and_e hn
  obtain ⟨n26, hn⟩ := and_e hn
  obtain ⟨n27, hn⟩ := and_e hn
  obtain ⟨n28, hn⟩ := and_e hn
  obtain ⟨n29, hn⟩ := and_e hn
  obtain ⟨n30, hn⟩ := and_e hn
  obtain ⟨n31, hn⟩ := and_e hn
  obtain ⟨n32, hn⟩ := and_e hn
  obtain ⟨n33, hn⟩ := and_e hn
  obtain ⟨n34, hn⟩ := and_e hn
  obtain ⟨n35, hn⟩ := and_e hn
  obtain ⟨n36, hn⟩ := and_e hn
  obtain ⟨n37, hn⟩ := and_e hn
  obtain ⟨n38, hn⟩ := and_e hn
  obtain ⟨n39, hn⟩ := and_e hn
  obtain ⟨n40, hn⟩ := and_e hn
  obtain ⟨n41, hn⟩ := and_e hn
  obtain ⟨n42, hn⟩ := and_e hn
  obtain ⟨n43, hn⟩ := and_e hn
  obtain ⟨n44, hn⟩ := and_e hn
  obtain ⟨n45, hn⟩ := and_e hn
  obtain ⟨n46, hn⟩ := and_e hn
  have n47 := hn
  obtain ⟨hsets, hown0⟩ := atoms_of _ (rest_1_c_eq ▸ (show rest_1_c.before _ s = true from hrest))
  obtain ⟨cpt, ecp⟩ := is_v (Cond.before_iff.mp (hsets _ (List.mem_of_getElem? (i := 1) rfl)))
  have SCP := Sta.start ecp (Or.inl (hsets _ (List.mem_of_getElem? (i := 0) rfl)))
  have hcp := gotF (Cond.eq_ints ecp (Term.int_eval (0))) (not_v (Cond.before_iff.mp (hsets _ (List.mem_of_getElem? (i := 2) rfl))))
  obtain ⟨va, ev⟩ := arr_v n2
  have SV := Sta.start ev (Or.inr ⟨hw _ (tw 3), hw _ (tw 44)⟩)
  obtain ⟨cl, AV, hv⟩ := len_al ev n2 n4
  have e4 : (3 : Int32).toInt = 3 := rfl
  rw [e4] at hv
  have hv : cl.slots.size = 3 := by omega
  have XV := Exa.start ev n3
  have FV := FitC.start hfit AV
  obtain ⟨e0, v0⟩ := exa_v n0
  have S0 := Sta.start v0 (Or.inr ⟨hw _ (tw 3), hw _ (tw 4)⟩)
  have X0 := Exa.start v0 n0
  have u0 := elem_ref ev v0 AV (by decide) n5
  obtain ⟨t0, c0, F0, T0⟩ := str_old (bs := tx0) hfit v0 n10 n11 n12 n13 (by decide) (And.intro n27 (And.intro n28 (And.intro n29 (And.intro n30 (And.intro n31 (And.intro n32 (trivial)))))))
  obtain ⟨o0, w0⟩ := exa_v n1
  have SO0 := Sta.start w0 (Or.inr ⟨hw _ (tw 6), hw _ (tw 7)⟩)
  have G0 := fld_ref v0 w0 n14
  obtain ⟨e1, v1⟩ := exa_v n6
  have S1 := Sta.start v1 (Or.inr ⟨hw _ (tw 3), hw _ (tw 52)⟩)
  have X1 := Exa.start v1 n6
  have u1 := elem_ref ev v1 AV (by decide) n7
  obtain ⟨t1, c1, F1, T1⟩ := str_old (bs := tx1) hfit v1 n16 n17 n18 n19 (by decide) (And.intro n33 (And.intro n34 (And.intro n35 (And.intro n36 (And.intro n37 (And.intro n38 (And.intro n39 (And.intro n40 (trivial)))))))))
  obtain ⟨o1, w1⟩ := exa_v n25
  have SO1 := Sta.start w1 (Or.inr ⟨hw _ (tw 6), hw _ (tw 87)⟩)
  have G1 := fld_ref v1 w1 n26
  obtain ⟨e2, v2⟩ := exa_v n8
  have S2 := Sta.start v2 (Or.inr ⟨hw _ (tw 3), hw _ (tw 53)⟩)
  have X2 := Exa.start v2 n8
  have u2 := elem_ref ev v2 AV (by decide) n9
  obtain ⟨t2, c2, F2, T2⟩ := str_old (bs := tx2) hfit v2 n20 n21 n22 n23 (by decide) (And.intro n41 (And.intro n42 (And.intro n43 (And.intro n44 (And.intro n45 (And.intro n46 (And.intro n47 (trivial))))))))
  obtain ⟨o2, w2⟩ := exa_v n15
  have SO2 := Sta.start w2 (Or.inr ⟨hw _ (tw 6), hw _ (tw 84)⟩)
  have G2 := fld_ref v2 w2 n24
  obtain ⟨n, o, h1, h2, h3, _, L, rfl, ⟨rfl, -, N⟩, hq⟩ := law_con l s _ hw i0 cpt SCP hcp va SV cl AV XV FV hv e0 t0 c0 F0 T0 u0 e1 t1 c1 F1 T1 u1 e2 t2 c2 F2 T2 u2 S0 X0 o0 SO0 G0 S1 X1 o1 SO1 G1 S2 X2 o2 SO2 G2 ⟨Nat.le_refl _, fun _ _ q => q⟩ tables_1 p e ha hc hk s m _ below hf ((Spec.applies_iff_loose hf).mp happ).1 ⟨rfl, State.Warmed39.refl s, rfl⟩ trivial
  refine ⟨n, _, h1, h2, h3, hpost _ _ _ _ _ _ ⟨Cond.after_iff.mpr rfl, Cond.after_iff.mpr (eq_i res_at (Term.int_eval (1)) rfl), trivial⟩ ⟨hq.1, hq.2.1, (hq.2.2.sift fun y hy => Or.inr (N y hy)).mono (by decide) (by decide)⟩⟩
theorem main_1_1 : Claimed_1_1 := comes_1 fun _ _ _ _ _ _ h hF => ⟨h.1, hF⟩
theorem main_1_2 : Claimed_1_2 := comes_1 fun _ _ _ _ _ _ h hF => ⟨h.2.1, hF⟩
end Jvm.Pilot.@@N@@
namespace Jvm.Pilot.@@N@@
open Jvm Jvm.ClassFile Sem Op Lib Jvm.Free Jvm.Stand Jvm.Pilot.@@N@@.Jvm.D
/-! MADE BY PROGRAM (witnessworld.py) out of the Statement's table words and the real class files: 23 classes; the members and pool entries that the words name. The judged class is class 1, her method 1. -/
namespace start1
open Jvm.ClassFile
def u (s : String) : CpInfo := .utf8 (stringToUtf16 s)
/-- a pool by its gaps: so many unusable entries, then the entry; so many at the end -/
def gap : Nat → List CpInfo → List CpInfo
  | 0, r => r
  | n + 1, r => .unusable :: gap n r
def poolList (es : List (Nat × CpInfo)) (last : Nat) : List CpInfo := es.foldr (fun e r => gap e.1 (e.2 :: r)) (gap last [])
def pool (es : List (Nat × CpInfo)) (last : Nat) : Array CpInfo := ⟨poolList es last⟩
def fileOf (pool : Array CpInfo) (this : Nat) (attrs : Array Attribute := #[]) (ms : Array MethodInfo := #[]) (fl : Nat := 33) (sup : Nat := 0) (ifs : Array Nat := #[]) (fds : Array FieldInfo := #[]) : ClassFile where
  minorVersion := 0
  majorVersion := 65
  constantPool := pool
  accessFlags := fl
  thisClass := this
  superClass := sup
  interfaces := ifs
  fields := fds
  methods := ms
  attributes := attrs
def plain (name : String) (sup : Option ClassId) : Class where
  name := name
  kind := .ordinary
  loader := none
  accessFlags := 33
  super := sup
  interfaces := #[]
  cf := none
  fields := #[]
  methods := #[]
  instanceTypes := #[]
  staticTypes := #[]
  resolved := #[]
  callSites := []
  init := .initialized
  statics := none
  mirror := none

def pool0 : Array CpInfo := pool [(5, u "<init>"), (0, u "()V"), (1, .class_ 10), (1, u "java/lang/Object"), (85, u "clone"), (0, u "()Ljava/lang/Object;")] 26

def k0c0 : Code := { maxStack := 0, maxLocals := 1, code := object_method_1_code, exceptionTable := #[], attributes := #[] }
def k0m0 : Method := { name := "<init>", desc := "()V", sig := { parameters := [], returnType := none }, accessFlags := 1, code := some k0c0 }
def k0m1 : Method := { name := "clone", desc := "()Ljava/lang/Object;", sig := { parameters := [], returnType := some (.object "java/lang/Object") }, accessFlags := 260, code := none }
/-- java/lang/Object -/
def k0 : Class := { plain "java/lang/Object" none with
  accessFlags := 33
  interfaces := #[]
  cf := some (fileOf pool0 8 #[] #[{ accessFlags := 1, nameIndex := 5, descriptorIndex := 6, attributes := #[] }, { accessFlags := 260, nameIndex := 96, descriptorIndex := 97, attributes := #[] }] 33 0 #[] #[])
  fields := #[]
  methods := #[k0m0, k0m1]
  instanceTypes := #[]
  staticTypes := #[]
  resolved := Array.replicate 124 none
  statics := none }

def pool1 : Array CpInfo := pool [(2, .class_ 4), (1, u "java/lang/Object"), (0, u "<init>"), (0, u "()V"), (0, .integer 2147483647), (0, .fieldref 9 10), (0, .class_ 11), (0, .nameAndType 12 13), (0, u "com/example/reserved_delivery/reserveddelivery/model/Resolution"), (0, u "COMMIT"), (0, u "Lcom/example/reserved_delivery/reserveddelivery/model/Resolution;"), (0, .fieldref 15 16), (0, .class_ 17), (0, .nameAndType 18 19), (0, u "com/example/reserved_delivery/reserveddelivery/model/TransactionState"), (0, u "COMMITTED"), (0, u "Lcom/example/reserved_delivery/reserveddelivery/model/TransactionState;"), (0, .fieldref 9 21), (0, .nameAndType 22 13), (0, u "ROLLBACK"), (0, .fieldref 15 24), (0, .nameAndType 25 19), (0, u "ROLLED_BACK"), (0, .fieldref 9 27), (0, .nameAndType 28 13), (0, u "UNKNOWN"), (0, .fieldref 15 30), (0, .nameAndType 31 19), (0, u "PENDING"), (0, .class_ 33), (0, u "java/lang/String"), (0, .methodref 32 35), (0, .nameAndType 5 36), (0, u "([C)V"), (0, .methodref 9 38), (0, .nameAndType 39 40), (0, u "of"), (0, u "(Ljava/lang/String;)Lcom/example/reserved_delivery/reserveddelivery/model/Resolution;"), (0, .methodref 9 42), (0, .nameAndType 43 44), (0, u "text"), (0, u "()Ljava/lang/String;"), (0, .methodref 32 46), (0, .nameAndType 47 48), (0, u "equals"), (0, u "(Ljava/lang/Object;)Z"), (0, .methodref 9 50), (0, .nameAndType 51 52), (0, u "outcome"), (0, u "()Lcom/example/reserved_delivery/reserveddelivery/model/TransactionState;"), (0, .class_ 54), (0, u "com/example/reserved_delivery/reserveddelivery/model/ResolutionOfPinLaw"), (2, u "law"), (0, u "(I)Z")] 5

def k1m0 : Method := { name := "<init>", desc := "()V", sig := { parameters := [], returnType := none }, accessFlags := 1, code := none }
def k1c1 : Code := { maxStack := 4, maxLocals := 7, code := code, exceptionTable := #[], attributes := #[] }
def k1m1 : Method := { name := "law", desc := "(I)Z", sig := { parameters := [.int], returnType := some .boolean }, accessFlags := 9, code := some k1c1 }
/-- com/example/reserved_delivery/reserveddelivery/model/ResolutionOfPinLaw -/
def k1 : Class := { plain "com/example/reserved_delivery/reserveddelivery/model/ResolutionOfPinLaw" (some 0) with
  accessFlags := 49
  interfaces := #[]
  cf := some (fileOf pool1 53 #[] #[{ accessFlags := 1, nameIndex := 5, descriptorIndex := 6, attributes := #[] }, { accessFlags := 9, nameIndex := 57, descriptorIndex := 58, attributes := #[] }] 49 2 #[] #[])
  fields := #[]
  methods := #[k1m0, k1m1]
  instanceTypes := #[]
  staticTypes := #[]
  resolved := Array.replicate 64 none
  statics := none }

def pool2 : Array CpInfo := pool [(1, .class_ 2), (0, u "java/lang/constant/Constable"), (0, .class_ 4), (0, u "java/lang/Object")] 6

/-- java/lang/constant/Constable -/
def k2 : Class := { plain "java/lang/constant/Constable" (some 0) with
  accessFlags := 1537
  interfaces := #[]
  cf := some (fileOf pool2 1 #[] #[] 1537 3 #[] #[])
  fields := #[]
  methods := #[]
  instanceTypes := #[]
  staticTypes := #[]
  resolved := Array.replicate 11 none
  statics := none }

def pool3 : Array CpInfo := pool [(1, .class_ 2), (0, u "java/lang/Comparable"), (0, .class_ 4), (0, u "java/lang/Object")] 7

/-- java/lang/Comparable -/
def k3 : Class := { plain "java/lang/Comparable" (some 0) with
  accessFlags := 1537
  interfaces := #[]
  cf := some (fileOf pool3 1 #[] #[] 1537 3 #[] #[])
  fields := #[]
  methods := #[]
  instanceTypes := #[]
  staticTypes := #[]
  resolved := Array.replicate 12 none
  statics := none }

def pool4 : Array CpInfo := pool [(1, .class_ 2), (0, u "java/io/Serializable"), (0, .class_ 4), (0, u "java/lang/Object")] 2

/-- java/io/Serializable -/
def k4 : Class := { plain "java/io/Serializable" (some 0) with
  accessFlags := 1537
  interfaces := #[]
  cf := some (fileOf pool4 1 #[] #[] 1537 3 #[] #[])
  fields := #[]
  methods := #[]
  instanceTypes := #[]
  staticTypes := #[]
  resolved := Array.replicate 7 none
  statics := none }

def pool5 : Array CpInfo := pool [(2, .class_ 4), (1, u "java/lang/Enum"), (0, u "name"), (0, u "Ljava/lang/String;"), (2, u "ordinal"), (0, u "I"), (1, .class_ 14), (1, u "java/lang/Object"), (4, u "hash"), (86, .class_ 108), (1, u "java/lang/Enum$EnumDesc"), (2, .class_ 112), (0, u "java/lang/constant/Constable"), (0, .class_ 114), (0, u "java/lang/Comparable"), (0, .class_ 116), (0, u "java/io/Serializable")] 87

/-- java/lang/Enum -/
def k5 : Class := { plain "java/lang/Enum" (some 0) with
  accessFlags := 1057
  interfaces := #[2, 3, 4]
  cf := some (fileOf pool5 2 #[.nestMembers #[106]] #[] 1057 12 #[111, 113, 115] #[{ accessFlags := 18, nameIndex := 5, descriptorIndex := 6, attributes := #[] }, { accessFlags := 18, nameIndex := 9, descriptorIndex := 10, attributes := #[] }, { accessFlags := 2, nameIndex := 19, descriptorIndex := 10, attributes := #[] }])
  fields := #[{ name := "name", type := (.object "java/lang/String"), accessFlags := 18, slot := 0, constantValue := 0 }, { name := "ordinal", type := .int, accessFlags := 18, slot := 1, constantValue := 0 }, { name := "hash", type := .int, accessFlags := 2, slot := 2, constantValue := 0 }]
  methods := #[]
  instanceTypes := #[(.object "java/lang/String"), .int, .int]
  staticTypes := #[]
  resolved := Array.replicate 204 none
  statics := none }

def pool6 : Array CpInfo := pool [(1, .class_ 2), (0, u "com/example/reserved_delivery/reserveddelivery/model/Resolution"), (2, u "COMMIT"), (0, u "Lcom/example/reserved_delivery/reserveddelivery/model/Resolution;"), (2, u "ROLLBACK"), (2, u "UNKNOWN"), (0, .fieldref 1 14), (0, .nameAndType 15 16), (0, u "$VALUES"), (0, u "[Lcom/example/reserved_delivery/reserveddelivery/model/Resolution;"), (0, .methodref 18 19), (0, .class_ 16), (0, .nameAndType 20 21), (0, u "clone"), (0, u "()Ljava/lang/Object;"), (1, .class_ 25), (1, u "java/lang/Enum"), (6, .fieldref 1 33), (0, .nameAndType 34 35), (0, u "text"), (0, u "Ljava/lang/String;"), (0, .fieldref 1 37), (0, .nameAndType 38 39), (0, u "outcome"), (0, u "Lcom/example/reserved_delivery/reserveddelivery/model/TransactionState;"), (0, .methodref 1 41), (0, .nameAndType 42 43), (0, u "values"), (0, u "()[Lcom/example/reserved_delivery/reserveddelivery/model/Resolution;"), (0, .methodref 45 46), (0, .class_ 47), (0, .nameAndType 48 49), (0, u "java/lang/String"), (0, u "equals"), (0, u "(Ljava/lang/Object;)Z"), (35, u "(Ljava/lang/String;)Lcom/example/reserved_delivery/reserveddelivery/model/Resolution;"), (3, u "of"), (1, u "()Ljava/lang/String;"), (0, u "()Lcom/example/reserved_delivery/reserveddelivery/model/TransactionState;")] 5

def k6c0 : Code := { maxStack := 1, maxLocals := 0, code := prog_37_method_1_code, exceptionTable := #[], attributes := #[] }
def k6m0 : Method := { name := "values", desc := "()[Lcom/example/reserved_delivery/reserveddelivery/model/Resolution;", sig := { parameters := [], returnType := some (.array (.object "com/example/reserved_delivery/reserveddelivery/model/Resolution")) }, accessFlags := 9, code := some k6c0 }
def k6c1 : Code := { maxStack := 3, maxLocals := 5, code := prog_37_method_4_code, exceptionTable := #[], attributes := #[] }
def k6m1 : Method := { name := "of", desc := "(Ljava/lang/String;)Lcom/example/reserved_delivery/reserveddelivery/model/Resolution;", sig := { parameters := [(.object "java/lang/String")], returnType := some (.object "com/example/reserved_delivery/reserveddelivery/model/Resolution") }, accessFlags := 9, code := some k6c1 }
def k6c2 : Code := { maxStack := 1, maxLocals := 1, code := prog_37_method_5_code, exceptionTable := #[], attributes := #[] }
def k6m2 : Method := { name := "text", desc := "()Ljava/lang/String;", sig := { parameters := [], returnType := some (.object "java/lang/String") }, accessFlags := 1, code := some k6c2 }
def k6c3 : Code := { maxStack := 1, maxLocals := 1, code := prog_37_method_6_code, exceptionTable := #[], attributes := #[] }
def k6m3 : Method := { name := "outcome", desc := "()Lcom/example/reserved_delivery/reserveddelivery/model/TransactionState;", sig := { parameters := [], returnType := some (.object "com/example/reserved_delivery/reserveddelivery/model/TransactionState") }, accessFlags := 1, code := some k6c3 }
/-- com/example/reserved_delivery/reserveddelivery/model/Resolution -/
def k6 : Class := { plain "com/example/reserved_delivery/reserveddelivery/model/Resolution" (some 5) with
  accessFlags := 16433
  interfaces := #[]
  cf := some (fileOf pool6 1 #[] #[{ accessFlags := 9, nameIndex := 42, descriptorIndex := 43, attributes := #[] }, { accessFlags := 9, nameIndex := 89, descriptorIndex := 85, attributes := #[] }, { accessFlags := 1, nameIndex := 34, descriptorIndex := 91, attributes := #[] }, { accessFlags := 1, nameIndex := 38, descriptorIndex := 92, attributes := #[] }] 16433 23 #[] #[{ accessFlags := 16409, nameIndex := 5, descriptorIndex := 6, attributes := #[] }, { accessFlags := 16409, nameIndex := 9, descriptorIndex := 6, attributes := #[] }, { accessFlags := 16409, nameIndex := 12, descriptorIndex := 6, attributes := #[] }, { accessFlags := 18, nameIndex := 34, descriptorIndex := 35, attributes := #[] }, { accessFlags := 18, nameIndex := 38, descriptorIndex := 39, attributes := #[] }, { accessFlags := 4122, nameIndex := 15, descriptorIndex := 16, attributes := #[] }])
  fields := #[{ name := "COMMIT", type := (.object "com/example/reserved_delivery/reserveddelivery/model/Resolution"), accessFlags := 16409, slot := 0, constantValue := 0 }, { name := "ROLLBACK", type := (.object "com/example/reserved_delivery/reserveddelivery/model/Resolution"), accessFlags := 16409, slot := 1, constantValue := 0 }, { name := "UNKNOWN", type := (.object "com/example/reserved_delivery/reserveddelivery/model/Resolution"), accessFlags := 16409, slot := 2, constantValue := 0 }, { name := "text", type := (.object "java/lang/String"), accessFlags := 18, slot := 3, constantValue := 0 }, { name := "outcome", type := (.object "com/example/reserved_delivery/reserveddelivery/model/TransactionState"), accessFlags := 18, slot := 4, constantValue := 0 }, { name := "$VALUES", type := (.array (.object "com/example/reserved_delivery/reserveddelivery/model/Resolution")), accessFlags := 4122, slot := 3, constantValue := 0 }]
  methods := #[k6m0, k6m1, k6m2, k6m3]
  instanceTypes := #[(.object "java/lang/String"), .int, .int, (.object "java/lang/String"), (.object "com/example/reserved_delivery/reserveddelivery/model/TransactionState")]
  staticTypes := #[(.object "com/example/reserved_delivery/reserveddelivery/model/Resolution"), (.object "com/example/reserved_delivery/reserveddelivery/model/Resolution"), (.object "com/example/reserved_delivery/reserveddelivery/model/Resolution"), (.array (.object "com/example/reserved_delivery/reserveddelivery/model/Resolution"))]
  resolved := Array.replicate 98 none
  statics := some 0 }

def pool7 : Array CpInfo := pool [(1, .class_ 2), (0, u "com/example/reserved_delivery/reserveddelivery/model/TransactionState"), (2, u "PENDING"), (0, u "Lcom/example/reserved_delivery/reserveddelivery/model/TransactionState;"), (2, u "COMMITTED"), (2, u "ROLLED_BACK"), (2, u "DISCARDED"), (2, u "$VALUES"), (0, u "[Lcom/example/reserved_delivery/reserveddelivery/model/TransactionState;"), (6, .class_ 28), (1, u "java/lang/Enum"), (8, u "text"), (0, u "Ljava/lang/String;")] 48

/-- com/example/reserved_delivery/reserveddelivery/model/TransactionState -/
def k7 : Class := { plain "com/example/reserved_delivery/reserveddelivery/model/TransactionState" (some 5) with
  accessFlags := 16433
  interfaces := #[]
  cf := some (fileOf pool7 1 #[] #[] 16433 26 #[] #[{ accessFlags := 16409, nameIndex := 5, descriptorIndex := 6, attributes := #[] }, { accessFlags := 16409, nameIndex := 9, descriptorIndex := 6, attributes := #[] }, { accessFlags := 16409, nameIndex := 12, descriptorIndex := 6, attributes := #[] }, { accessFlags := 16409, nameIndex := 15, descriptorIndex := 6, attributes := #[] }, { accessFlags := 18, nameIndex := 37, descriptorIndex := 38, attributes := #[] }, { accessFlags := 4122, nameIndex := 18, descriptorIndex := 19, attributes := #[] }])
  fields := #[{ name := "PENDING", type := (.object "com/example/reserved_delivery/reserveddelivery/model/TransactionState"), accessFlags := 16409, slot := 0, constantValue := 0 }, { name := "COMMITTED", type := (.object "com/example/reserved_delivery/reserveddelivery/model/TransactionState"), accessFlags := 16409, slot := 1, constantValue := 0 }, { name := "ROLLED_BACK", type := (.object "com/example/reserved_delivery/reserveddelivery/model/TransactionState"), accessFlags := 16409, slot := 2, constantValue := 0 }, { name := "DISCARDED", type := (.object "com/example/reserved_delivery/reserveddelivery/model/TransactionState"), accessFlags := 16409, slot := 3, constantValue := 0 }, { name := "text", type := (.object "java/lang/String"), accessFlags := 18, slot := 3, constantValue := 0 }, { name := "$VALUES", type := (.array (.object "com/example/reserved_delivery/reserveddelivery/model/TransactionState")), accessFlags := 4122, slot := 4, constantValue := 0 }]
  methods := #[]
  instanceTypes := #[(.object "java/lang/String"), .int, .int, (.object "java/lang/String")]
  staticTypes := #[(.object "com/example/reserved_delivery/reserveddelivery/model/TransactionState"), (.object "com/example/reserved_delivery/reserveddelivery/model/TransactionState"), (.object "com/example/reserved_delivery/reserveddelivery/model/TransactionState"), (.object "com/example/reserved_delivery/reserveddelivery/model/TransactionState"), (.array (.object "com/example/reserved_delivery/reserveddelivery/model/TransactionState"))]
  resolved := Array.replicate 87 none
  statics := some 1 }

def pool8 : Array CpInfo := pool [(2, .class_ 4), (1, u "java/lang/CharSequence"), (42, .class_ 48), (0, u "java/lang/CharSequence$1CodePointIterator"), (10, .class_ 60), (0, u "java/lang/CharSequence$1CharIterator"), (5, .class_ 67), (0, u "java/lang/Object")] 63

/-- java/lang/CharSequence -/
def k8 : Class := { plain "java/lang/CharSequence" (some 0) with
  accessFlags := 1537
  interfaces := #[]
  cf := some (fileOf pool8 2 #[.nestMembers #[47, 59]] #[] 1537 66 #[] #[])
  fields := #[]
  methods := #[]
  instanceTypes := #[]
  staticTypes := #[]
  resolved := Array.replicate 131 none
  statics := none }

def pool9 : Array CpInfo := pool [(1, .class_ 2), (0, u "java/lang/constant/ConstantDesc"), (0, .class_ 4), (0, u "java/lang/Object")] 32

/-- java/lang/constant/ConstantDesc -/
def k9 : Class := { plain "java/lang/constant/ConstantDesc" (some 0) with
  accessFlags := 1537
  interfaces := #[]
  cf := some (fileOf pool9 1 #[] #[] 1537 3 #[] #[])
  fields := #[]
  methods := #[]
  instanceTypes := #[]
  staticTypes := #[]
  resolved := Array.replicate 37 none
  statics := none }

def pool10 : Array CpInfo := pool [(1, .methodref 2 3), (0, .class_ 4), (0, .nameAndType 5 6), (0, u "java/lang/Object"), (0, u "<init>"), (0, u "()V"), (2, .fieldref 10 11), (0, .class_ 12), (0, .nameAndType 13 14), (0, u "java/lang/String"), (0, u "value"), (0, u "[B"), (0, .fieldref 10 16), (0, .nameAndType 17 18), (0, u "coder"), (0, u "B"), (2, u "hash"), (0, u "I"), (2, u "hashIsZero"), (0, u "Z"), (0, .methodref 10 28), (0, .nameAndType 5 29), (0, u "([CIILjava/lang/Void;)V"), (8, .fieldref 10 39), (0, .nameAndType 40 26), (0, u "COMPACT_STRINGS"), (1, .class_ 44), (1, u "java/lang/StringUTF16"), (0, u "compress"), (1, .methodref 42 48), (0, .nameAndType 49 50), (0, u "coderFromArrayLen"), (0, u "([BI)B"), (56, .class_ 109), (1, u "java/lang/StringLatin1"), (67, .methodref 42 178), (0, .nameAndType 45 179), (0, u "([CII)[B"), (361, .methodref 107 542), (0, .nameAndType 543 544), (0, u "equals"), (0, u "([B[B)Z"), (28, u "(Ljava/lang/Object;)Z"), (1, .class_ 576), (0, u "java/lang/CharSequence"), (22, u "CASE_INSENSITIVE_ORDER"), (0, u "Ljava/util/Comparator;"), (409, u "([C)V"), (90, u "serialPersistentFields"), (0, u "[Ljava/io/ObjectStreamField;"), (0, .class_ 1104), (0, u "java/lang/String$CaseInsensitiveComparator"), (1, .class_ 1107), (0, u "java/io/Serializable"), (0, .class_ 1109), (0, u "java/lang/Comparable"), (0, .class_ 1111), (0, u "java/lang/constant/Constable"), (0, .class_ 1113), (0, u "java/lang/constant/ConstantDesc"), (2, u "serialVersionUID"), (0, u "J"), (3, u "REPL"), (0, u "C"), (2, u "LATIN1"), (1, u "UTF16")] 323

def k10m0 : Method := { name := "<init>", desc := "()V", sig := { parameters := [], returnType := none }, accessFlags := 1, code := none }
def k10c1 : Code := { maxStack := 5, maxLocals := 2, code := jdk_42_method_3_code, exceptionTable := #[], attributes := #[] }
def k10m1 : Method := { name := "<init>", desc := "([C)V", sig := { parameters := [(.array .char)], returnType := none }, accessFlags := 1, code := some k10c1 }
def k10c2 : Code := { maxStack := 2, maxLocals := 3, code := jdk_42_method_66_code, exceptionTable := #[], attributes := #[] }
def k10m2 : Method := { name := "equals", desc := "(Ljava/lang/Object;)Z", sig := { parameters := [(.object "java/lang/Object")], returnType := some .boolean }, accessFlags := 1, code := some k10c2 }
def k10c3 : Code := { maxStack := 4, maxLocals := 6, code := jdk_42_method_149_code, exceptionTable := #[], attributes := #[] }
def k10m3 : Method := { name := "<init>", desc := "([CIILjava/lang/Void;)V", sig := { parameters := [(.array .char), .int, .int, (.object "java/lang/Void")], returnType := none }, accessFlags := 2, code := some k10c3 }
/-- java/lang/String -/
def k10 : Class := { plain "java/lang/String" (some 0) with
  accessFlags := 49
  interfaces := #[4, 3, 8, 2, 9]
  cf := some (fileOf pool10 10 #[.nestMembers #[1103]] #[{ accessFlags := 1, nameIndex := 5, descriptorIndex := 6, attributes := #[] }, { accessFlags := 1, nameIndex := 5, descriptorIndex := 1010, attributes := #[] }, { accessFlags := 1, nameIndex := 543, descriptorIndex := 573, attributes := #[] }, { accessFlags := 2, nameIndex := 5, descriptorIndex := 29, attributes := #[] }] 49 2 #[1106, 1108, 575, 1110, 1112] #[{ accessFlags := 18, nameIndex := 13, descriptorIndex := 14, attributes := #[] }, { accessFlags := 18, nameIndex := 17, descriptorIndex := 18, attributes := #[] }, { accessFlags := 2, nameIndex := 21, descriptorIndex := 22, attributes := #[] }, { accessFlags := 2, nameIndex := 25, descriptorIndex := 26, attributes := #[] }, { accessFlags := 26, nameIndex := 1116, descriptorIndex := 1117, attributes := #[] }, { accessFlags := 24, nameIndex := 40, descriptorIndex := 26, attributes := #[] }, { accessFlags := 26, nameIndex := 1101, descriptorIndex := 1102, attributes := #[] }, { accessFlags := 26, nameIndex := 1121, descriptorIndex := 1122, attributes := #[] }, { accessFlags := 25, nameIndex := 599, descriptorIndex := 600, attributes := #[] }, { accessFlags := 24, nameIndex := 1125, descriptorIndex := 18, attributes := #[] }, { accessFlags := 24, nameIndex := 1127, descriptorIndex := 18, attributes := #[] }])
  fields := #[{ name := "value", type := (.array .byte), accessFlags := 18, slot := 0, constantValue := 0 }, { name := "coder", type := .byte, accessFlags := 18, slot := 1, constantValue := 0 }, { name := "hash", type := .int, accessFlags := 2, slot := 2, constantValue := 0 }, { name := "hashIsZero", type := .boolean, accessFlags := 2, slot := 3, constantValue := 0 }, { name := "serialVersionUID", type := .long, accessFlags := 26, slot := 0, constantValue := 0 }, { name := "COMPACT_STRINGS", type := .boolean, accessFlags := 24, slot := 1, constantValue := 0 }, { name := "serialPersistentFields", type := (.array (.object "java/io/ObjectStreamField")), accessFlags := 26, slot := 2, constantValue := 0 }, { name := "REPL", type := .char, accessFlags := 26, slot := 3, constantValue := 0 }, { name := "CASE_INSENSITIVE_ORDER", type := (.object "java/util/Comparator"), accessFlags := 25, slot := 4, constantValue := 0 }, { name := "LATIN1", type := .byte, accessFlags := 24, slot := 5, constantValue := 0 }, { name := "UTF16", type := .byte, accessFlags := 24, slot := 6, constantValue := 0 }]
  methods := #[k10m0, k10m1, k10m2, k10m3]
  instanceTypes := #[(.array .byte), .byte, .int, .boolean]
  staticTypes := #[.long, .boolean, (.array (.object "java/io/ObjectStreamField")), .char, (.object "java/util/Comparator"), .byte, .byte]
  resolved := Array.replicate 1451 none
  statics := some 2 }

def pool11 : Array CpInfo := pool [(6, .class_ 8), (1, u "java/lang/Object"), (0, u "<init>"), (0, u "()V"), (1, .class_ 14), (1, u "java/lang/StringUTF16"), (31, u "$assertionsDisabled"), (0, u "Z"), (13, u "HI_BYTE_SHIFT"), (0, u "I"), (2, u "LO_BYTE_SHIFT"), (49, .methodref 12 116), (0, .nameAndType 117 118), (0, u "compress"), (0, u "([CI[BII)I"), (3, u "([CII)[B"), (138, u "coderFromArrayLen"), (0, u "([BI)B"), (106, .class_ 371), (1, u "java/lang/StringUTF16$LinesSpliterator"), (58, u "MAX_LENGTH"), (196, .class_ 628), (0, u "java/lang/StringUTF16$CodePointsSpliterator"), (0, .class_ 630), (0, u "java/lang/StringUTF16$CharsSpliterator")] 4

def k11m0 : Method := { name := "<init>", desc := "()V", sig := { parameters := [], returnType := none }, accessFlags := 0, code := none }
def k11c1 : Code := { maxStack := 2, maxLocals := 2, code := jdk_52_method_15_code, exceptionTable := #[], attributes := #[] }
def k11m1 : Method := { name := "coderFromArrayLen", desc := "([BI)B", sig := { parameters := [(.array .byte), .int], returnType := some .byte }, accessFlags := 8, code := some k11c1 }
def k11c2 : Code := { maxStack := 5, maxLocals := 6, code := jdk_52_method_16_code, exceptionTable := #[], attributes := #[] }
def k11m2 : Method := { name := "compress", desc := "([CII)[B", sig := { parameters := [(.array .char), .int, .int], returnType := some (.array .byte) }, accessFlags := 9, code := some k11c2 }
def k11c3 : Code := { maxStack := 3, maxLocals := 7, code := jdk_52_method_21_code, exceptionTable := #[], attributes := #[] }
def k11m3 : Method := { name := "compress", desc := "([CI[BII)I", sig := { parameters := [(.array .char), .int, (.array .byte), .int, .int], returnType := some .int }, accessFlags := 9, code := some k11c3 }
/-- java/lang/StringUTF16 -/
def k11 : Class := { plain "java/lang/StringUTF16" (some 0) with
  accessFlags := 48
  interfaces := #[]
  cf := some (fileOf pool11 12 #[.nestMembers #[627, 629, 369]] #[{ accessFlags := 0, nameIndex := 9, descriptorIndex := 10, attributes := #[] }, { accessFlags := 8, nameIndex := 261, descriptorIndex := 262, attributes := #[] }, { accessFlags := 9, nameIndex := 117, descriptorIndex := 122, attributes := #[] }, { accessFlags := 9, nameIndex := 117, descriptorIndex := 118, attributes := #[] }] 48 6 #[] #[{ accessFlags := 26, nameIndex := 61, descriptorIndex := 62, attributes := #[] }, { accessFlags := 26, nameIndex := 65, descriptorIndex := 62, attributes := #[] }, { accessFlags := 24, nameIndex := 430, descriptorIndex := 62, attributes := #[] }, { accessFlags := 4120, nameIndex := 46, descriptorIndex := 47, attributes := #[] }])
  fields := #[{ name := "HI_BYTE_SHIFT", type := .int, accessFlags := 26, slot := 0, constantValue := 0 }, { name := "LO_BYTE_SHIFT", type := .int, accessFlags := 26, slot := 1, constantValue := 0 }, { name := "MAX_LENGTH", type := .int, accessFlags := 24, slot := 2, constantValue := 0 }, { name := "$assertionsDisabled", type := .boolean, accessFlags := 4120, slot := 3, constantValue := 0 }]
  methods := #[k11m0, k11m1, k11m2, k11m3]
  instanceTypes := #[]
  staticTypes := #[.int, .int, .int, .boolean]
  resolved := Array.replicate 635 none
  statics := none }

def pool12 : Array CpInfo := pool [(1, .class_ 2), (0, u "java/lang/Cloneable"), (0, .class_ 4), (0, u "java/lang/Object")] 2

/-- java/lang/Cloneable -/
def k12 : Class := { plain "java/lang/Cloneable" (some 0) with
  accessFlags := 1537
  interfaces := #[]
  cf := some (fileOf pool12 1 #[] #[] 1537 3 #[] #[])
  fields := #[]
  methods := #[]
  instanceTypes := #[]
  staticTypes := #[]
  resolved := Array.replicate 7 none
  statics := none }

def pool13 : Array CpInfo := pool [(4, .class_ 6), (1, u "java/lang/Object"), (0, u "<init>"), (0, u "()V"), (5, .class_ 16), (1, u "java/lang/StringLatin1"), (104, u "$assertionsDisabled"), (0, u "Z"), (98, .class_ 223), (1, u "java/lang/StringLatin1$LinesSpliterator"), (57, u "equals"), (0, u "([B[B)Z"), (107, .class_ 391), (0, u "java/lang/StringLatin1$CharsSpliterator")] 3

def k13m0 : Method := { name := "<init>", desc := "()V", sig := { parameters := [], returnType := none }, accessFlags := 0, code := none }
def k13c1 : Code := { maxStack := 3, maxLocals := 3, code := jdk_43_method_13_code, exceptionTable := #[], attributes := #[] }
def k13m1 : Method := { name := "equals", desc := "([B[B)Z", sig := { parameters := [(.array .byte), (.array .byte)], returnType := some .boolean }, accessFlags := 9, code := some k13c1 }
/-- java/lang/StringLatin1 -/
def k13 : Class := { plain "java/lang/StringLatin1" (some 0) with
  accessFlags := 48
  interfaces := #[]
  cf := some (fileOf pool13 14 #[.nestMembers #[390, 221]] #[{ accessFlags := 0, nameIndex := 7, descriptorIndex := 8, attributes := #[] }, { accessFlags := 9, nameIndex := 281, descriptorIndex := 282, attributes := #[] }] 48 4 #[] #[{ accessFlags := 4120, nameIndex := 121, descriptorIndex := 122, attributes := #[] }])
  fields := #[{ name := "$assertionsDisabled", type := .boolean, accessFlags := 4120, slot := 0, constantValue := 0 }]
  methods := #[k13m0, k13m1]
  instanceTypes := #[]
  staticTypes := #[.boolean]
  resolved := Array.replicate 395 none
  statics := none }

def pool14 : Array CpInfo := pool [(2, .class_ 4), (1, u "java/lang/Object"), (0, u "<init>"), (0, u "()V"), (17, .class_ 26), (1, u "jdk/internal/util/Preconditions"), (28, .class_ 56), (0, u "jdk/internal/util/Preconditions$4"), (57, .class_ 115), (0, u "jdk/internal/util/Preconditions$1"), (7, u "SIOOBE_FORMATTER"), (0, u "Ljava/util/function/BiFunction;"), (0, .class_ 126), (0, u "jdk/internal/util/Preconditions$2"), (3, u "AIOOBE_FORMATTER"), (0, .class_ 132), (0, u "jdk/internal/util/Preconditions$3"), (3, u "IOOBE_FORMATTER")] 57

def k14m0 : Method := { name := "<init>", desc := "()V", sig := { parameters := [], returnType := none }, accessFlags := 1, code := none }
/-- jdk/internal/util/Preconditions -/
def k14 : Class := { plain "jdk/internal/util/Preconditions" (some 0) with
  accessFlags := 33
  interfaces := #[]
  cf := some (fileOf pool14 24 #[.nestMembers #[55, 131, 125, 114]] #[{ accessFlags := 1, nameIndex := 5, descriptorIndex := 6, attributes := #[] }] 33 2 #[] #[{ accessFlags := 25, nameIndex := 123, descriptorIndex := 124, attributes := #[] }, { accessFlags := 25, nameIndex := 130, descriptorIndex := 124, attributes := #[] }, { accessFlags := 25, nameIndex := 136, descriptorIndex := 124, attributes := #[] }])
  fields := #[{ name := "SIOOBE_FORMATTER", type := (.object "java/util/function/BiFunction"), accessFlags := 25, slot := 0, constantValue := 0 }, { name := "AIOOBE_FORMATTER", type := (.object "java/util/function/BiFunction"), accessFlags := 25, slot := 1, constantValue := 0 }, { name := "IOOBE_FORMATTER", type := (.object "java/util/function/BiFunction"), accessFlags := 25, slot := 2, constantValue := 0 }]
  methods := #[k14m0]
  instanceTypes := #[]
  staticTypes := #[(.object "java/util/function/BiFunction"), (.object "java/util/function/BiFunction"), (.object "java/util/function/BiFunction")]
  resolved := Array.replicate 194 none
  statics := some 3 }

def pool15 : Array CpInfo := pool [(9, u "<init>"), (6, .class_ 18), (1, u "java/lang/Object"), (0, u "()V"), (1, .class_ 23), (1, u "jdk/internal/util/ArraysSupport"), (0, u "LOG2_ARRAY_LONG_INDEX_SCALE"), (0, u "I"), (2, u "U"), (0, u "Ljdk/internal/misc/Unsafe;"), (8, u "BIG_ENDIAN"), (0, u "Z"), (8, u "LOG2_BYTE_BIT_SIZE"), (4, u "LOG2_ARRAY_INT_INDEX_SCALE"), (54, u "JLA"), (0, u "Ljdk/internal/access/JavaLangAccess;"), (11, u "LOG2_ARRAY_BOOLEAN_INDEX_SCALE"), (9, u "LOG2_ARRAY_BYTE_INDEX_SCALE"), (5, u "LOG2_ARRAY_CHAR_INDEX_SCALE"), (5, u "LOG2_ARRAY_SHORT_INDEX_SCALE"), (18, u "LOG2_ARRAY_FLOAT_INDEX_SCALE"), (24, u "LOG2_ARRAY_DOUBLE_INDEX_SCALE"), (89, u "T_BOOLEAN"), (2, u "T_CHAR"), (1, u "T_FLOAT"), (1, u "T_DOUBLE"), (1, u "T_BYTE"), (1, u "T_SHORT"), (1, u "T_INT"), (1, u "T_LONG"), (1, u "SOFT_MAX_ARRAY_LENGTH")] 83

def k15m0 : Method := { name := "<init>", desc := "()V", sig := { parameters := [], returnType := none }, accessFlags := 2, code := none }
/-- jdk/internal/util/ArraysSupport -/
def k15 : Class := { plain "jdk/internal/util/ArraysSupport" (some 0) with
  accessFlags := 33
  interfaces := #[]
  cf := some (fileOf pool15 21 #[] #[{ accessFlags := 2, nameIndex := 9, descriptorIndex := 19, attributes := #[] }] 33 16 #[] #[{ accessFlags := 24, nameIndex := 28, descriptorIndex := 29, attributes := #[] }, { accessFlags := 26, nameIndex := 38, descriptorIndex := 39, attributes := #[] }, { accessFlags := 25, nameIndex := 121, descriptorIndex := 25, attributes := #[] }, { accessFlags := 25, nameIndex := 131, descriptorIndex := 25, attributes := #[] }, { accessFlags := 25, nameIndex := 137, descriptorIndex := 25, attributes := #[] }, { accessFlags := 25, nameIndex := 143, descriptorIndex := 25, attributes := #[] }, { accessFlags := 25, nameIndex := 53, descriptorIndex := 25, attributes := #[] }, { accessFlags := 25, nameIndex := 24, descriptorIndex := 25, attributes := #[] }, { accessFlags := 25, nameIndex := 162, descriptorIndex := 25, attributes := #[] }, { accessFlags := 25, nameIndex := 187, descriptorIndex := 25, attributes := #[] }, { accessFlags := 26, nameIndex := 48, descriptorIndex := 25, attributes := #[] }, { accessFlags := 25, nameIndex := 277, descriptorIndex := 25, attributes := #[] }, { accessFlags := 25, nameIndex := 280, descriptorIndex := 25, attributes := #[] }, { accessFlags := 25, nameIndex := 282, descriptorIndex := 25, attributes := #[] }, { accessFlags := 25, nameIndex := 284, descriptorIndex := 25, attributes := #[] }, { accessFlags := 25, nameIndex := 286, descriptorIndex := 25, attributes := #[] }, { accessFlags := 25, nameIndex := 288, descriptorIndex := 25, attributes := #[] }, { accessFlags := 25, nameIndex := 290, descriptorIndex := 25, attributes := #[] }, { accessFlags := 25, nameIndex := 292, descriptorIndex := 25, attributes := #[] }, { accessFlags := 26, nameIndex := 108, descriptorIndex := 109, attributes := #[] }, { accessFlags := 25, nameIndex := 294, descriptorIndex := 25, attributes := #[] }])
  fields := #[{ name := "U", type := (.object "jdk/internal/misc/Unsafe"), accessFlags := 24, slot := 0, constantValue := 0 }, { name := "BIG_ENDIAN", type := .boolean, accessFlags := 26, slot := 1, constantValue := 0 }, { name := "LOG2_ARRAY_BOOLEAN_INDEX_SCALE", type := .int, accessFlags := 25, slot := 2, constantValue := 0 }, { name := "LOG2_ARRAY_BYTE_INDEX_SCALE", type := .int, accessFlags := 25, slot := 3, constantValue := 0 }, { name := "LOG2_ARRAY_CHAR_INDEX_SCALE", type := .int, accessFlags := 25, slot := 4, constantValue := 0 }, { name := "LOG2_ARRAY_SHORT_INDEX_SCALE", type := .int, accessFlags := 25, slot := 5, constantValue := 0 }, { name := "LOG2_ARRAY_INT_INDEX_SCALE", type := .int, accessFlags := 25, slot := 6, constantValue := 0 }, { name := "LOG2_ARRAY_LONG_INDEX_SCALE", type := .int, accessFlags := 25, slot := 7, constantValue := 0 }, { name := "LOG2_ARRAY_FLOAT_INDEX_SCALE", type := .int, accessFlags := 25, slot := 8, constantValue := 0 }, { name := "LOG2_ARRAY_DOUBLE_INDEX_SCALE", type := .int, accessFlags := 25, slot := 9, constantValue := 0 }, { name := "LOG2_BYTE_BIT_SIZE", type := .int, accessFlags := 26, slot := 10, constantValue := 0 }, { name := "T_BOOLEAN", type := .int, accessFlags := 25, slot := 11, constantValue := 0 }, { name := "T_CHAR", type := .int, accessFlags := 25, slot := 12, constantValue := 0 }, { name := "T_FLOAT", type := .int, accessFlags := 25, slot := 13, constantValue := 0 }, { name := "T_DOUBLE", type := .int, accessFlags := 25, slot := 14, constantValue := 0 }, { name := "T_BYTE", type := .int, accessFlags := 25, slot := 15, constantValue := 0 }, { name := "T_SHORT", type := .int, accessFlags := 25, slot := 16, constantValue := 0 }, { name := "T_INT", type := .int, accessFlags := 25, slot := 17, constantValue := 0 }, { name := "T_LONG", type := .int, accessFlags := 25, slot := 18, constantValue := 0 }, { name := "JLA", type := (.object "jdk/internal/access/JavaLangAccess"), accessFlags := 26, slot := 19, constantValue := 0 }, { name := "SOFT_MAX_ARRAY_LENGTH", type := .int, accessFlags := 25, slot := 20, constantValue := 0 }]
  methods := #[k15m0]
  instanceTypes := #[]
  staticTypes := #[(.object "jdk/internal/misc/Unsafe"), .boolean, .int, .int, .int, .int, .int, .int, .int, .int, .int, .int, .int, .int, .int, .int, .int, .int, .int, (.object "jdk/internal/access/JavaLangAccess"), .int]
  resolved := Array.replicate 378 none
  statics := none }

/-- the primitive byte -/
def k16 : Class := { plain "byte" none with kind := .primitive 'B', accessFlags := 0x411 }
/-- [B -/
def k17 : Class := { plain "[B" (some 0) with kind := .array 16 .byte, interfaces := #[12, 4], accessFlags := 1041 }

/-- the primitive char -/
def k18 : Class := { plain "char" none with kind := .primitive 'C', accessFlags := 0x411 }
/-- [C -/
def k19 : Class := { plain "[C" (some 0) with kind := .array 18 .char, interfaces := #[12, 4], accessFlags := 1041 }

/-- the primitive int -/
def k20 : Class := { plain "int" none with kind := .primitive 'I', accessFlags := 0x411 }
/-- [I -/
def k21 : Class := { plain "[I" (some 0) with kind := .array 20 .int, interfaces := #[12, 4], accessFlags := 1041 }

/-- [Lcom/example/reserved_delivery/reserveddelivery/model/Resolution; -/
def k22 : Class := { plain "[Lcom/example/reserved_delivery/reserveddelivery/model/Resolution;" (some 0) with kind := .array 6 (.object "com/example/reserved_delivery/reserveddelivery/model/Resolution"), interfaces := #[12, 4], accessFlags := 1041 }

def heap : Heap := #[{ cls := 6, slots := #[.ref 5, .ref 6, .ref 7, .ref 4], vm := .statics 6 },
  { cls := 7, slots := #[.ref 16, .ref 14, .ref 15, .null, .null], vm := .statics 7 },
  { cls := 10, slots := #[.long 0, .int 1, .null, .int 0, .null, .int 0, .int 0], vm := .statics 10 },
  { cls := 14, slots := #[.null, .null, .null], vm := .statics 14 },
  { cls := 22, slots := #[.ref 5, .ref 6, .ref 7], vm := .none },
  { cls := 6, slots := #[.null, .int 0, .int 0, .ref 8, .ref 14], vm := .none },
  { cls := 6, slots := #[.null, .int 1, .int 0, .ref 9, .ref 15], vm := .none },
  { cls := 6, slots := #[.null, .int 2, .int 0, .ref 10, .ref 16], vm := .none },
  { cls := 10, slots := #[.ref 11, .int 0, .int 0, .int 0], vm := .none },
  { cls := 10, slots := #[.ref 12, .int 0, .int 0, .int 0], vm := .none },
  { cls := 10, slots := #[.ref 13, .int 0, .int 0, .int 0], vm := .none },
  { cls := 17, slots := #[.int 99, .int 111, .int 109, .int 109, .int 105, .int 116], vm := .none },
  { cls := 17, slots := #[.int 114, .int 111, .int 108, .int 108, .int 98, .int 97, .int 99, .int 107], vm := .none },
  { cls := 17, slots := #[.int 117, .int 110, .int 107, .int 110, .int 111, .int 119, .int 110], vm := .none },
  { cls := 7, slots := #[.null, .int 0, .int 0, .null], vm := .none },
  { cls := 7, slots := #[.null, .int 1, .int 0, .null], vm := .none },
  { cls := 7, slots := #[.null, .int 2, .int 0, .null], vm := .none }]
def classes : Array Class := #[k0, k1, k2, k3, k4, k5, k6, k7, k8, k9, k10, k11, k12, k13, k14, k15, k16, k17, k18, k19, k20, k21, k22]
def interned : List (Array UInt16 × Addr) := []
def slotsUsed : Nat := 82
def theMethod : MethodId := ⟨1, 1⟩
def args0 : Array Value := #[.int 2]
def aboutOver (below : List Frame) : State where
  vm := { classes := classes, interned := interned.toArray }
  heap := heap
  slotsUsed := slotsUsed
  threads := #[{ frames := .invoking theMethod args0 :: below }]
def below0 : List Frame := [.native { method := ⟨0, 0⟩, args := #[] }]
def about1 : State := aboutOver below0
def p0 : Program := .bare "" "" ""
def e0 : Env := launch0.env 0 0 0
theorem w_frames : about1.frames = Frame.invoking theMethod args0 :: below0 := rfl
set_option maxRecDepth 65536 in
theorem w_args : argsFit about1.vm theMethod args0 = true := by decide +kernel
set_option maxRecDepth 65536 in
theorem w_heap : heapFits about1 = true := by decide +kernel
set_option maxRecDepth 65536 in
theorem w_runnable : about1.curStatus? = some .runnable := by decide +kernel
set_option maxRecDepth 65536 in
theorem w_alone : about1.alone = true := by decide +kernel
set_option maxRecDepth 65536 in
theorem w_named : about1.methodNamed? x = some theMethod := by decide +kernel
set_option maxRecDepth 65536 in
theorem w_hears : about1.hears theMethod below0 = true := by decide +kernel
set_option maxRecDepth 65536 in
theorem w_ripe : about1.ripe theMethod args0 below0 = true := by decide +kernel
theorem w_running : about1.status = .running := rfl
set_option maxRecDepth 65536 in
theorem w_room : about1.hasRoom e0.platform room_1 = true :=
  launch0.hasRoom_least _ room_1 (by decide +kernel) (by decide +kernel) (by decide +kernel) (by decide +kernel) (by decide +kernel) (by decide +kernel)
theorem allAtoms_all (ts : List Jvm.Cond) (a : Array Jvm.Value) (st : Jvm.State) : (allAtoms ts).before a st = ts.all (fun c => c.before a st) := by
  induction ts with
  | nil => rfl
  | cons c t ih =>
    show (Jvm.Cond.and c (allAtoms t)).before a st = _
    rw [Jvm.Cond.before_and, ih, List.all_cons]
def words1 : List Jvm.Cond := Jvm.Cond.code x code maxLocals ret :: tables_1
/-- a 'code' word, met by the world's own term for the bytes: nothing is compared byte by byte -/
theorem code_word {y : MethodName} {bytes : ByteArray} {mx : Nat} {rt : Option FieldType} {a : Array Value} {s : State} {m : MethodId} {meth : Method} {c : Code} (h1 : s.methodNamed? y = some m) (h2 : s.vm.method? m = some meth) (h3 : meth.code = some c) (h4 : c.code = bytes)
    (h5 : (c.maxLocals == mx && c.exceptionTable.isEmpty && decide (c.maxStack ≤ mostOperands) && decide (meth.sig.returnType = rt) && !meth.locks && decide (parseMethodDescriptor y.desc = some meth.sig)) = true) : (Jvm.Cond.code y bytes mx rt).before a s = true := by
  simp only [Bool.and_eq_true, beq_iff_eq, Bool.not_eq_true', decide_eq_true_eq] at h5
  obtain ⟨⟨⟨⟨⟨g1, g2⟩, g3⟩, g4⟩, g5⟩, g6⟩ := h5
  simp [Cond.before, Cond.holds, Cond.value, h1, h2, h3, h4, g1, g2, g3, g4, g5, g6]
def isCode : Jvm.Cond → Bool
  | .code _ _ _ _ => true
  | _ => false
theorem all_split {L : List Jvm.Cond} {P : Jvm.Cond → Bool} (h1 : L.all (fun c => isCode c || P c) = true) (h2 : ∀ c ∈ L.filter isCode, P c = true) : L.all P = true := by
  refine List.all_eq_true.mpr fun c hc => ?_
  have h := List.all_eq_true.mp h1 c hc
  rcases Bool.eq_false_or_eq_true (isCode c) with hi | hi
  · exact h2 c (List.mem_filter.mpr ⟨hc, hi⟩)
  · simpa [hi] using h
set_option maxRecDepth 65536 in
theorem w_c0 : (Jvm.Cond.code x code maxLocals ret).before args0 about1 = true := code_word (m := ⟨1, 1⟩) (meth := k1m1) (c := k1c1) (by decide +kernel) rfl rfl rfl (by decide +kernel)
set_option maxRecDepth 65536 in
theorem w_c1 : (Jvm.Cond.code ({ cls := "java/lang/String", name := "<init>", desc := "([C)V" } : Jvm.MethodName) jdk_42_method_3_code (2 : Nat) (Option.none : Option Jvm.ClassFile.FieldType)).before args0 about1 = true := code_word (m := ⟨10, 1⟩) (meth := k10m1) (c := k10c1) (by decide +kernel) rfl rfl rfl (by decide +kernel)
set_option maxRecDepth 65536 in
theorem w_c2 : (Jvm.Cond.code ({ cls := "java/lang/String", name := "<init>", desc := "([CIILjava/lang/Void;)V" } : Jvm.MethodName) jdk_42_method_149_code (6 : Nat) (Option.none : Option Jvm.ClassFile.FieldType)).before args0 about1 = true := code_word (m := ⟨10, 3⟩) (meth := k10m3) (c := k10c3) (by decide +kernel) rfl rfl rfl (by decide +kernel)
set_option maxRecDepth 65536 in
theorem w_c3 : (Jvm.Cond.code ({ cls := "java/lang/Object", name := "<init>", desc := "()V" } : Jvm.MethodName) object_method_1_code (1 : Nat) (Option.none : Option Jvm.ClassFile.FieldType)).before args0 about1 = true := code_word (m := ⟨0, 0⟩) (meth := k0m0) (c := k0c0) (by decide +kernel) rfl rfl rfl (by decide +kernel)
set_option maxRecDepth 65536 in
theorem w_c4 : (Jvm.Cond.code ({ cls := "java/lang/StringUTF16", name := "compress", desc := "([CII)[B" } : Jvm.MethodName) jdk_52_method_16_code (6 : Nat) (Option.some (Jvm.ClassFile.FieldType.array Jvm.ClassFile.FieldType.byte))).before args0 about1 = true := code_word (m := ⟨11, 2⟩) (meth := k11m2) (c := k11c2) (by decide +kernel) rfl rfl rfl (by decide +kernel)
set_option maxRecDepth 65536 in
theorem w_c5 : (Jvm.Cond.code ({ cls := "java/lang/StringUTF16", name := "compress", desc := "([CI[BII)I" } : Jvm.MethodName) jdk_52_method_21_code (7 : Nat) (Option.some Jvm.ClassFile.FieldType.int)).before args0 about1 = true := code_word (m := ⟨11, 3⟩) (meth := k11m3) (c := k11c3) (by decide +kernel) rfl rfl rfl (by decide +kernel)
set_option maxRecDepth 65536 in
theorem w_c6 : (Jvm.Cond.code ({ cls := "java/lang/StringUTF16", name := "coderFromArrayLen", desc := "([BI)B" } : Jvm.MethodName) jdk_52_method_15_code (2 : Nat) (Option.some Jvm.ClassFile.FieldType.byte)).before args0 about1 = true := code_word (m := ⟨11, 1⟩) (meth := k11m1) (c := k11c1) (by decide +kernel) rfl rfl rfl (by decide +kernel)
set_option maxRecDepth 65536 in
theorem w_c7 : (Jvm.Cond.code ({ cls := "com/example/reserved_delivery/reserveddelivery/model/Resolution", name := "of", desc := "(Ljava/lang/String;)Lcom/example/reserved_delivery/reserveddelivery/model/Resolution;" } : Jvm.MethodName) prog_37_method_4_code (5 : Nat) (Option.some (Jvm.ClassFile.FieldType.object "com/example/reserved_delivery/reserveddelivery/model/Resolution"))).before args0 about1 = true := code_word (m := ⟨6, 1⟩) (meth := k6m1) (c := k6c1) (by decide +kernel) rfl rfl rfl (by decide +kernel)
set_option maxRecDepth 65536 in
theorem w_c8 : (Jvm.Cond.code ({ cls := "com/example/reserved_delivery/reserveddelivery/model/Resolution", name := "values", desc := "()[Lcom/example/reserved_delivery/reserveddelivery/model/Resolution;" } : Jvm.MethodName) prog_37_method_1_code (0 : Nat) (Option.some (Jvm.ClassFile.FieldType.array (Jvm.ClassFile.FieldType.object "com/example/reserved_delivery/reserveddelivery/model/Resolution")))).before args0 about1 = true := code_word (m := ⟨6, 0⟩) (meth := k6m0) (c := k6c0) (by decide +kernel) rfl rfl rfl (by decide +kernel)
set_option maxRecDepth 65536 in
theorem w_c9 : (Jvm.Cond.code ({ cls := "java/lang/String", name := "equals", desc := "(Ljava/lang/Object;)Z" } : Jvm.MethodName) jdk_42_method_66_code (3 : Nat) (Option.some Jvm.ClassFile.FieldType.boolean)).before args0 about1 = true := code_word (m := ⟨10, 2⟩) (meth := k10m2) (c := k10c2) (by decide +kernel) rfl rfl rfl (by decide +kernel)
set_option maxRecDepth 65536 in
theorem w_c10 : (Jvm.Cond.code ({ cls := "java/lang/StringLatin1", name := "equals", desc := "([B[B)Z" } : Jvm.MethodName) jdk_43_method_13_code (3 : Nat) (Option.some Jvm.ClassFile.FieldType.boolean)).before args0 about1 = true := code_word (m := ⟨13, 1⟩) (meth := k13m1) (c := k13c1) (by decide +kernel) rfl rfl rfl (by decide +kernel)
set_option maxRecDepth 65536 in
theorem w_c11 : (Jvm.Cond.code ({ cls := "com/example/reserved_delivery/reserveddelivery/model/Resolution", name := "text", desc := "()Ljava/lang/String;" } : Jvm.MethodName) prog_37_method_5_code (1 : Nat) (Option.some (Jvm.ClassFile.FieldType.object "java/lang/String"))).before args0 about1 = true := code_word (m := ⟨6, 2⟩) (meth := k6m2) (c := k6c2) (by decide +kernel) rfl rfl rfl (by decide +kernel)
set_option maxRecDepth 65536 in
theorem w_c12 : (Jvm.Cond.code ({ cls := "com/example/reserved_delivery/reserveddelivery/model/Resolution", name := "outcome", desc := "()Lcom/example/reserved_delivery/reserveddelivery/model/TransactionState;" } : Jvm.MethodName) prog_37_method_6_code (1 : Nat) (Option.some (Jvm.ClassFile.FieldType.object "com/example/reserved_delivery/reserveddelivery/model/TransactionState"))).before args0 about1 = true := code_word (m := ⟨6, 3⟩) (meth := k6m3) (c := k6c3) (by decide +kernel) rfl rfl rfl (by decide +kernel)
def codes1 : List Jvm.Cond := [Jvm.Cond.code x code maxLocals ret, Jvm.Cond.code ({ cls := "java/lang/String", name := "<init>", desc := "([C)V" } : Jvm.MethodName) jdk_42_method_3_code (2 : Nat) (Option.none : Option Jvm.ClassFile.FieldType), Jvm.Cond.code ({ cls := "java/lang/String", name := "<init>", desc := "([CIILjava/lang/Void;)V" } : Jvm.MethodName) jdk_42_method_149_code (6 : Nat) (Option.none : Option Jvm.ClassFile.FieldType), Jvm.Cond.code ({ cls := "java/lang/Object", name := "<init>", desc := "()V" } : Jvm.MethodName) object_method_1_code (1 : Nat) (Option.none : Option Jvm.ClassFile.FieldType), Jvm.Cond.code ({ cls := "java/lang/StringUTF16", name := "compress", desc := "([CII)[B" } : Jvm.MethodName) jdk_52_method_16_code (6 : Nat) (Option.some (Jvm.ClassFile.FieldType.array Jvm.ClassFile.FieldType.byte)), Jvm.Cond.code ({ cls := "java/lang/StringUTF16", name := "compress", desc := "([CI[BII)I" } : Jvm.MethodName) jdk_52_method_21_code (7 : Nat) (Option.some Jvm.ClassFile.FieldType.int), Jvm.Cond.code ({ cls := "java/lang/StringUTF16", name := "coderFromArrayLen", desc := "([BI)B" } : Jvm.MethodName) jdk_52_method_15_code (2 : Nat) (Option.some Jvm.ClassFile.FieldType.byte), Jvm.Cond.code ({ cls := "com/example/reserved_delivery/reserveddelivery/model/Resolution", name := "of", desc := "(Ljava/lang/String;)Lcom/example/reserved_delivery/reserveddelivery/model/Resolution;" } : Jvm.MethodName) prog_37_method_4_code (5 : Nat) (Option.some (Jvm.ClassFile.FieldType.object "com/example/reserved_delivery/reserveddelivery/model/Resolution")), Jvm.Cond.code ({ cls := "com/example/reserved_delivery/reserveddelivery/model/Resolution", name := "values", desc := "()[Lcom/example/reserved_delivery/reserveddelivery/model/Resolution;" } : Jvm.MethodName) prog_37_method_1_code (0 : Nat) (Option.some (Jvm.ClassFile.FieldType.array (Jvm.ClassFile.FieldType.object "com/example/reserved_delivery/reserveddelivery/model/Resolution"))), Jvm.Cond.code ({ cls := "java/lang/String", name := "equals", desc := "(Ljava/lang/Object;)Z" } : Jvm.MethodName) jdk_42_method_66_code (3 : Nat) (Option.some Jvm.ClassFile.FieldType.boolean), Jvm.Cond.code ({ cls := "java/lang/StringLatin1", name := "equals", desc := "([B[B)Z" } : Jvm.MethodName) jdk_43_method_13_code (3 : Nat) (Option.some Jvm.ClassFile.FieldType.boolean), Jvm.Cond.code ({ cls := "com/example/reserved_delivery/reserveddelivery/model/Resolution", name := "text", desc := "()Ljava/lang/String;" } : Jvm.MethodName) prog_37_method_5_code (1 : Nat) (Option.some (Jvm.ClassFile.FieldType.object "java/lang/String")), Jvm.Cond.code ({ cls := "com/example/reserved_delivery/reserveddelivery/model/Resolution", name := "outcome", desc := "()Lcom/example/reserved_delivery/reserveddelivery/model/TransactionState;" } : Jvm.MethodName) prog_37_method_6_code (1 : Nat) (Option.some (Jvm.ClassFile.FieldType.object "com/example/reserved_delivery/reserveddelivery/model/TransactionState"))]
set_option maxRecDepth 65536 in
theorem codes_eq : words1.filter isCode = codes1 := rfl
theorem w_codes : ∀ c ∈ words1.filter isCode, c.before args0 about1 = true := by
  rw [codes_eq]
  intro c hc
  simp only [codes1, List.mem_cons, List.not_mem_nil, or_false] at hc
  rcases hc with rfl | rfl | rfl | rfl | rfl | rfl | rfl | rfl | rfl | rfl | rfl | rfl | rfl
  · exact w_c0
  · exact w_c1
  · exact w_c2
  · exact w_c3
  · exact w_c4
  · exact w_c5
  · exact w_c6
  · exact w_c7
  · exact w_c8
  · exact w_c9
  · exact w_c10
  · exact w_c11
  · exact w_c12
set_option maxRecDepth 65536 in
theorem w_t1 : (words1.take 24).all (fun c => isCode c || c.before args0 about1) = true := by decide +kernel
set_option maxRecDepth 65536 in
theorem w_t2 : ((words1.drop 24).take 24).all (fun c => isCode c || c.before args0 about1) = true := by decide +kernel
set_option maxRecDepth 65536 in
theorem w_t3 : (((words1.drop 24).drop 24).take 24).all (fun c => isCode c || c.before args0 about1) = true := by decide +kernel
set_option maxRecDepth 65536 in
theorem w_t4 : (((words1.drop 24).drop 24).drop 24).all (fun c => isCode c || c.before args0 about1) = true := by decide +kernel
theorem w_tables : (allAtoms (Jvm.Cond.code x code maxLocals ret :: tables_1)).before args0 about1 = true := by
  rw [allAtoms_all]
  show words1.all (fun c => c.before args0 about1) = true
  refine all_split ?_ w_codes
  rw [← List.take_append_drop 24 words1, List.all_append, w_t1, ← List.take_append_drop 24 (words1.drop 24), List.all_append, w_t2, ← List.take_append_drop 24 ((words1.drop 24).drop 24), List.all_append, w_t3, w_t4]
  rfl
set_option maxRecDepth 65536 in
theorem w_rest : rest_1_c.before args0 about1 = true := by decide +kernel
set_option maxRecDepth 65536 in
theorem w_case : (Jvm.Cond.and given_1 narrow_1).before args0 about1 = true := by decide +kernel
theorem w_applies : (headSpec (Jvm.Cond.code x code maxLocals ret :: tables_1) room_1).applies x e0.platform about1 = true :=
  (Spec.applies_iff w_frames).mpr ⟨w_running, w_runnable, w_alone, w_named, w_hears, w_ripe, w_room, w_tables⟩
theorem atStart : AtStart classFile x code maxLocals ret World_1 tables_1 room_1 Calls_1 rest_1 Pre_1 launch0 p0 e0 about1 theMethod args0 below0 :=
  ⟨lists_1, trivial, launch0.admits_env _ _ _, launch0.least_env, fairChoices_fair.cas, fairChoices_fair.clock, w_frames, w_args, w_heap, w_applies, trivial, w_rest, w_case⟩
end start1
theorem witness_1 : WitnessClaimed_1 := ⟨start1.p0, start1.e0, start1.about1, start1.theMethod, start1.args0, start1.below0, start1.atStart⟩
end Jvm.Pilot.@@N@@
