import JvmDerived
import JvmDerived.Pilot.@@N@@Statement
import JvmDerived.Pilot.@@N@@Code
set_option linter.unusedVariables false
set_option linter.unusedSimpArgs false
namespace Jvm.Own
open Sem ClassFile Op Lib Jvm.Stand Jvm.Free Jvm.LawKit Jvm.RoadKit
/-! THE OWN LAYER: a walk as a predicate on (heap, cells spent, slots spent, pc, locals, stack); each step is one rule 'what follows holds there -> what is asked holds here'. -/
abbrev Wk := Heap → Nat → Nat → Nat → Array Slot → List Value → Prop
def Ends (Z s : State) (R : Room) (Q : Option Value → Heap → Prop) (o : Outcome) (u : State) : Prop :=
  ∃ v L, o = .returned v ∧ (Q v u.heap ∧ Ext Z.heap u.heap ∧ Fr Z.heap.size L) ∧ FrameEnd s o u L R.cells R.slots
def Run (p : Program) (l : Launch) (e : Env) (R : Room) (s : State) (m : MethodId) (args : Array Value) (below : List Frame) (meth : Method) (c : Code) (Z : State) (Q : Option Value → Heap → Prop) : Wk := fun h k n pc Ls st =>
  Ext Z.heap h → ∀ T locs, Stand p l e R s m args below meth c T locs k n → T.heap = h → Fr Z.heap.size locs →
    ∃ u o, Steps p.tables e below (T.setTop (mkF m pc Ls st)) u ∧ u.status = .running ∧ Ended u below o ∧ Ends Z s R Q o u
def Ok (p : Program) (s : State) (m : MethodId) (meth : Method) (c : Code) (Z : State) (a0 : Array Value) (tb : List Jvm.Cond) (own : String) (code : ByteArray) (ml : Nat) (rt : Option FieldType) (nm : String) : Prop :=
  p.tables.exec = Jvm.exec ∧ c.code = code ∧ c.maxLocals = ml ∧ s.vm.findClass own = some m.cls ∧ meth.sig.returnType = rt ∧ meth.locks = false ∧ Z.Warmed39 s.vm ∧ meth.name = nm ∧ (∀ d ∈ tb, d.before a0 Z = true)
def Walk (W : Wk) (l : Launch) (Z : State) (a0 : Array Value) (tb : List Jvm.Cond) (own : String) (code : ByteArray) (ml : Nat) (rt : Option FieldType) (nm : String) (R : Room) (Q : Option Value → Heap → Prop) : Prop :=
  ∃ p e s m args below meth c, W = Run p l e R s m args below meth c Z Q ∧ Ok p s m meth c Z a0 tb own code ml rt nm
/-- what a method does, called on these arguments over this heap -/
def Con (l : Launch) (Z : State) (y : MethodName) (code : ByteArray) (ml : Nat) (rt : Option FieldType) (rm : Room) (as : Array Value) (h : Heap) (Q : Option Value → Heap → Prop) : Prop :=
  Ext Z.heap h → ∀ ws, MetFree l y (head1 (Jvm.Cond.code y code ml rt :: ws) rm) (fun a U => a = as ∧ Z.Warmed39 U.vm ∧ U.heap = h) (fun _ _ _ _ _ => True) (fun _ U o U' => Ends Z U rm Q o U')
/-- it returns v and the heap stands as it was -/
def Same (v : Option Value) (h : Heap) : Option Value → Heap → Prop := fun v' h' => v' = v ∧ h' = h
theorem same_intro {v : Option Value} {h : Heap} {P : Option Value → Heap → Prop} (K : P v h) : ∀ v' h', Same v h v' h' → P v' h' := by
  rintro _ _ ⟨rfl, rfl⟩; exact K
theorem Con.of {l : Launch} {Z : State} {a0 : Array Value} {tb : List Jvm.Cond} {y : MethodName} {code : ByteArray} {ml : Nat} {rt : Option FieldType} {rm : Room} {as : Array Value} {h : Heap} {Q : Option Value → Heap → Prop} {Ls : Array Slot}
    (hw : ∀ d ∈ tb, d.before a0 Z = true) (hpn : plainFor y = true) (hef : ∀ m, entryFrame m as ml = mkF m 0 Ls []) (H : ∀ W : Wk, Walk W l Z a0 tb y.cls code ml rt y.name rm Q → W h 0 0 0 Ls []) : Con l Z y code ml rt rm as h Q := by
  intro hE ws
  refine MetFree.of_bodySF hpn hisR ?_
  intro p e s m args below meth c s₁ Bd hml0 hP hK
  obtain ⟨rfl, hZ, hh⟩ := hP
  have X0 : Stand p l e rm s m args below meth c s₁ [] 0 0 := Stand.of_body Bd
  have e0 : s₁.heap = h := by rw [← hh, Bd.state]; rfl
  obtain ⟨u, o, h1, h2, h3, h4⟩ := H _ ⟨p, e, s, m, args, below, meth, c, rfl, Bd.exec, Bd.bytes, hml0, findClass_of_methodNamed Bd.named, Bd.returns, BodyLoose.notSynchronized Bd, hZ, (name_of_methodNamed Bd.named Bd.method).1, hw⟩ hE s₁ [] X0 e0 (Fr.nil _)
  exact ⟨u, o, castTop (hef m) h1, h2, h3, h4⟩
section Rules
variable {W : Wk} {l : Launch} {Z : State} {a0 : Array Value} {tb : List Jvm.Cond} {own : String} {code : ByteArray} {ml : Nat} {rt : Option FieldType} {nm : String} {R : Room} {Q : Option Value → Heap → Prop} {h : Heap} {k n pc : Nat} {Ls : Array Slot} {st : List Value}
theorem Walk.word (C : Walk W l Z a0 tb own code ml rt nm R Q) {d : Jvm.Cond} (q : d ∈ tb) : d.before a0 Z = true := by
  obtain ⟨p, e, s, m, args, below, meth, c, rfl, ok⟩ := C
  exact ok.2.2.2.2.2.2.2.2 d q
theorem Walk.more (C : Walk W l Z a0 tb own code ml rt nm R Q) {k' n' : Nat} (hk : k ≤ k') (hn : n ≤ n') (K : W h k' n' pc Ls st) : W h k n pc Ls st := by
  obtain ⟨p, e, s, m, args, below, meth, c, rfl, ok⟩ := C
  exact fun hE T locs X eT N => K hE T locs (X.more hk hn) eT N
theorem Walk.kept (C : Walk W l Z a0 tb own code ml rt nm R Q) (K : Ext Z.heap h → W h k n pc Ls st) : W h k n pc Ls st := by
  obtain ⟨p, e, s, m, args, below, meth, c, rfl, ok⟩ := C
  exact fun hE => K hE hE
/-- a step that moves neither heap nor tables -/
theorem Walk.plain (C : Walk W l Z a0 tb own code ml rt nm R Q) {pc' : Nat} {Ls' : Array Slot} {st' : List Value}
    (S : ∀ {tb' : Tables} [Ours tb'] {e : Env} {below : List Frame} {T target : State} {m : MethodId} {c : Code}, At T m c below → tb'.exec = Jvm.exec → c.code = code → Steps tb' e below (T.setTop (mkF m pc' Ls' st')) target → Steps tb' e below (T.setTop (mkF m pc Ls st)) target)
    (K : W h k n pc' Ls' st') : W h k n pc Ls st := by
  obtain ⟨p, e, s, m, args, below, meth, c, rfl, ok⟩ := C
  intro hE T locs X eT N
  obtain ⟨u, o, h1, h2⟩ := K hE T locs X eT N
  exact ⟨u, o, S X.here ok.1 ok.2.1 h1, h2⟩
theorem Walk.iloadN (C : Walk W l Z a0 tb own code ml rt nm R Q) (pc' : Nat) {i : Fin 4} {v : Int32} (hd : decode code pc = .ok (.iload_n i, 1)) (hp : pc' = pc + 1) (hl : Ls[i.val]? = some (.val (.int v))) (K : W h k n pc' Ls (.int v :: st)) : W h k n pc Ls st := by
  subst hp; exact C.plain (fun hA hx hb' hr => XS.iloadN hA hx rfl (hb hb' hd) hl hr) K
theorem Walk.iload (C : Walk W l Z a0 tb own code ml rt nm R Q) (pc' : Nat) {i : Nat} {v : Int32} (hd : decode code pc = .ok (.iload i, 2)) (hp : pc' = pc + 2) (hl : Ls[i]? = some (.val (.int v))) (K : W h k n pc' Ls (.int v :: st)) : W h k n pc Ls st := by
  subst hp; exact C.plain (fun hA hx hb' hr => XS.iload hA hx rfl (hb hb' hd) hl hr) K
theorem Walk.lloadN (C : Walk W l Z a0 tb own code ml rt nm R Q) (pc' : Nat) {i : Fin 4} {v : Int64} (hd : decode code pc = .ok (.lload_n i, 1)) (hp : pc' = pc + 1) (hl : Ls[i.val]? = some (.val (.long v))) (K : W h k n pc' Ls (.long v :: st)) : W h k n pc Ls st := by
  subst hp; exact C.plain (fun hA hx hb' hr => XT.lloadN hA hx rfl (hb hb' hd) hl hr) K
theorem Walk.lload (C : Walk W l Z a0 tb own code ml rt nm R Q) (pc' : Nat) {i : Nat} {v : Int64} (hd : decode code pc = .ok (.lload i, 2)) (hp : pc' = pc + 2) (hl : Ls[i]? = some (.val (.long v))) (K : W h k n pc' Ls (.long v :: st)) : W h k n pc Ls st := by
  subst hp; exact C.plain (fun hA hx hb' hr => XT.lload hA hx rfl (hb hb' hd) hl hr) K
theorem Walk.aloadN (C : Walk W l Z a0 tb own code ml rt nm R Q) (pc' : Nat) {i : Fin 4} {v : Value} (hd : decode code pc = .ok (.aload_n i, 1)) (hp : pc' = pc + 1) (hl : Ls[i.val]? = some (.val v)) (hv : v.isRef = true) (K : W h k n pc' Ls (v :: st)) : W h k n pc Ls st := by
  subst hp; exact C.plain (fun hA hx hb' hr => XS.aloadN hA hx rfl (hb hb' hd) hl hv hr) K
theorem Walk.aload (C : Walk W l Z a0 tb own code ml rt nm R Q) (pc' : Nat) {i : Nat} {v : Value} (hd : decode code pc = .ok (.aload i, 2)) (hp : pc' = pc + 2) (hl : Ls[i]? = some (.val v)) (hv : v.isRef = true) (K : W h k n pc' Ls (v :: st)) : W h k n pc Ls st := by
  subst hp; exact C.plain (fun hA hx hb' hr => XS.aload hA hx rfl (hb hb' hd) hl hv hr) K
theorem Walk.istoreN (C : Walk W l Z a0 tb own code ml rt nm R Q) (pc' : Nat) (Ls' : Array Slot) {i : Fin 4} {x : Int32} (hd : decode code pc = .ok (.istore_n i, 1)) (hp : pc' = pc + 1) (hl : storeLocals Ls i.val (.int x) = some Ls') (K : W h k n pc' Ls' st) : W h k n pc Ls (.int x :: st) := by
  subst hp; exact C.plain (fun hA hx hb' hr => XS.istoreN hA hx rfl (hb hb' hd) rfl hl hr) K
theorem Walk.istore (C : Walk W l Z a0 tb own code ml rt nm R Q) (pc' : Nat) (Ls' : Array Slot) {i : Nat} {x : Int32} (hd : decode code pc = .ok (.istore i, 2)) (hp : pc' = pc + 2) (hl : storeLocals Ls i (.int x) = some Ls') (K : W h k n pc' Ls' st) : W h k n pc Ls (.int x :: st) := by
  subst hp; exact C.plain (fun hA hx hb' hr => XS.istore hA hx rfl (hb hb' hd) rfl hl hr) K
theorem Walk.lstoreN (C : Walk W l Z a0 tb own code ml rt nm R Q) (pc' : Nat) (Ls' : Array Slot) {i : Fin 4} {x : Int64} (hd : decode code pc = .ok (.lstore_n i, 1)) (hp : pc' = pc + 1) (hl : storeLocals Ls i.val (.long x) = some Ls') (K : W h k n pc' Ls' st) : W h k n pc Ls (.long x :: st) := by
  subst hp; exact C.plain (fun hA hx hb' hr => XT.lstoreN hA hx rfl (hb hb' hd) rfl hl hr) K
theorem Walk.lstore (C : Walk W l Z a0 tb own code ml rt nm R Q) (pc' : Nat) (Ls' : Array Slot) {i : Nat} {x : Int64} (hd : decode code pc = .ok (.lstore i, 2)) (hp : pc' = pc + 2) (hl : storeLocals Ls i (.long x) = some Ls') (K : W h k n pc' Ls' st) : W h k n pc Ls (.long x :: st) := by
  subst hp; exact C.plain (fun hA hx hb' hr => XT.lstore hA hx rfl (hb hb' hd) rfl hl hr) K
theorem Walk.astoreN (C : Walk W l Z a0 tb own code ml rt nm R Q) (pc' : Nat) (Ls' : Array Slot) {i : Fin 4} {x : Value} (hd : decode code pc = .ok (.astore_n i, 1)) (hp : pc' = pc + 1) (hv : x.isRef = true) (hl : storeLocals Ls i.val x = some Ls') (K : W h k n pc' Ls' st) : W h k n pc Ls (x :: st) := by
  subst hp; exact C.plain (fun hA hx hb' hr => XS.astoreN hA hx rfl (hb hb' hd) rfl hv hl hr) K
theorem Walk.astore (C : Walk W l Z a0 tb own code ml rt nm R Q) (pc' : Nat) (Ls' : Array Slot) {i : Nat} {x : Value} (hd : decode code pc = .ok (.astore i, 2)) (hp : pc' = pc + 2) (hv : x.isRef = true) (hl : storeLocals Ls i x = some Ls') (K : W h k n pc' Ls' st) : W h k n pc Ls (x :: st) := by
  subst hp; exact C.plain (fun hA hx hb' hr => XS.astore hA hx rfl (hb hb' hd) rfl hv hl hr) K
theorem Walk.iconst (C : Walk W l Z a0 tb own code ml rt nm R Q) (pc' : Nat) (v : Int32) {i : Int} (hd : decode code pc = .ok (.iconst i, 1)) (hp : pc' = pc + 1) (hv : Int32.ofInt i = v) (K : W h k n pc' Ls (.int v :: st)) : W h k n pc Ls st := by
  subst hp hv; exact C.plain (fun hA hx hb' hr => XS.iconst hA hx rfl (hb hb' hd) hr) K
theorem Walk.bipush (C : Walk W l Z a0 tb own code ml rt nm R Q) (pc' : Nat) (v : Int32) {i : Int} (hd : decode code pc = .ok (.bipush i, 2)) (hp : pc' = pc + 2) (hv : (Int8.ofInt i).toInt32 = v) (K : W h k n pc' Ls (.int v :: st)) : W h k n pc Ls st := by
  subst hp hv; exact C.plain (fun hA hx hb' hr => XS.bipush hA hx rfl (hb hb' hd) hr) K
theorem Walk.sipush (C : Walk W l Z a0 tb own code ml rt nm R Q) (pc' : Nat) (v : Int32) {i : Int} (hd : decode code pc = .ok (.sipush i, 3)) (hp : pc' = pc + 3) (hv : (Int16.ofInt i).toInt32 = v) (K : W h k n pc' Ls (.int v :: st)) : W h k n pc Ls st := by
  subst hp hv; exact C.plain (fun hA hx hb' hr => XS.sipush hA hx rfl (hb hb' hd) hr) K
theorem Walk.lconst (C : Walk W l Z a0 tb own code ml rt nm R Q) (pc' : Nat) (v : Int64) {i : Fin 2} (hd : decode code pc = .ok (.lconst i, 1)) (hp : pc' = pc + 1) (hv : Int64.ofNat i = v) (K : W h k n pc' Ls (.long v :: st)) : W h k n pc Ls st := by
  subst hp hv; exact C.plain (fun hA hx hb' hr => XT.lconst hA hx rfl (hb hb' hd) hr) K
theorem Walk.aconstNull (C : Walk W l Z a0 tb own code ml rt nm R Q) (pc' : Nat) (hd : decode code pc = .ok (.aconst_null, 1)) (hp : pc' = pc + 1) (K : W h k n pc' Ls (.null :: st)) : W h k n pc Ls st := by
  subst hp; exact C.plain (fun hA hx hb' hr => XS.aconstNull hA hx rfl (hb hb' hd) hr) K
theorem Walk.iadd (C : Walk W l Z a0 tb own code ml rt nm R Q) (pc' : Nat) {x y : Int32} (hd : decode code pc = .ok (.iadd, 1)) (hp : pc' = pc + 1) (K : W h k n pc' Ls (.int (x + y) :: st)) : W h k n pc Ls (.int y :: .int x :: st) := by
  subst hp; exact C.plain (fun hA hx hb' hr => XS.iadd hA hx rfl (hb hb' hd) rfl hr) K
theorem Walk.isub (C : Walk W l Z a0 tb own code ml rt nm R Q) (pc' : Nat) {x y : Int32} (hd : decode code pc = .ok (.isub, 1)) (hp : pc' = pc + 1) (K : W h k n pc' Ls (.int (x - y) :: st)) : W h k n pc Ls (.int y :: .int x :: st) := by
  subst hp; exact C.plain (fun hA hx hb' hr => XS.isub hA hx rfl (hb hb' hd) rfl hr) K
theorem Walk.iand (C : Walk W l Z a0 tb own code ml rt nm R Q) (pc' : Nat) {x y : Int32} (hd : decode code pc = .ok (.iand, 1)) (hp : pc' = pc + 1) (K : W h k n pc' Ls (.int (x &&& y) :: st)) : W h k n pc Ls (.int y :: .int x :: st) := by
  subst hp; exact C.plain (fun hA hx hb' hr => XS.iand hA hx rfl (hb hb' hd) rfl hr) K
theorem Walk.imul (C : Walk W l Z a0 tb own code ml rt nm R Q) (pc' : Nat) {x y : Int32} (hd : decode code pc = .ok (.imul, 1)) (hp : pc' = pc + 1) (K : W h k n pc' Ls (.int (x * y) :: st)) : W h k n pc Ls (.int y :: .int x :: st) := by
  subst hp; exact C.plain (fun hA hx hb' hr => XS.imul hA hx rfl (hb hb' hd) rfl hr) K
theorem Walk.ixor (C : Walk W l Z a0 tb own code ml rt nm R Q) (pc' : Nat) {x y : Int32} (hd : decode code pc = .ok (.ixor, 1)) (hp : pc' = pc + 1) (K : W h k n pc' Ls (.int (x ^^^ y) :: st)) : W h k n pc Ls (.int y :: .int x :: st) := by
  subst hp; exact C.plain (fun hA hx hb' hr => XT.ixor hA hx rfl (hb hb' hd) rfl hr) K
theorem Walk.ior (C : Walk W l Z a0 tb own code ml rt nm R Q) (pc' : Nat) {x y : Int32} (hd : decode code pc = .ok (.ior, 1)) (hp : pc' = pc + 1) (K : W h k n pc' Ls (.int (x ||| y) :: st)) : W h k n pc Ls (.int y :: .int x :: st) := by
  subst hp; exact C.plain (fun hA hx hb' hr => XT.ior hA hx rfl (hb hb' hd) rfl hr) K
theorem Walk.ishl (C : Walk W l Z a0 tb own code ml rt nm R Q) (pc' : Nat) {x y : Int32} (hd : decode code pc = .ok (.ishl, 1)) (hp : pc' = pc + 1) (K : W h k n pc' Ls (.int (x <<< (y &&& 31)) :: st)) : W h k n pc Ls (.int y :: .int x :: st) := by
  subst hp; exact C.plain (fun hA hx hb' hr => XT.ishl hA hx rfl (hb hb' hd) rfl hr) K
theorem Walk.ishr (C : Walk W l Z a0 tb own code ml rt nm R Q) (pc' : Nat) {x y : Int32} (hd : decode code pc = .ok (.ishr, 1)) (hp : pc' = pc + 1) (K : W h k n pc' Ls (.int (x >>> (y &&& 31)) :: st)) : W h k n pc Ls (.int y :: .int x :: st) := by
  subst hp; exact C.plain (fun hA hx hb' hr => XT.ishr hA hx rfl (hb hb' hd) rfl hr) K
theorem Walk.iushr (C : Walk W l Z a0 tb own code ml rt nm R Q) (pc' : Nat) {x y : Int32} (hd : decode code pc = .ok (.iushr, 1)) (hp : pc' = pc + 1) (K : W h k n pc' Ls (.int (XT.ushr x y) :: st)) : W h k n pc Ls (.int y :: .int x :: st) := by
  subst hp; exact C.plain (fun hA hx hb' hr => XT.iushr hA hx rfl (hb hb' hd) rfl hr) K
theorem Walk.ladd (C : Walk W l Z a0 tb own code ml rt nm R Q) (pc' : Nat) {x y : Int64} (hd : decode code pc = .ok (.ladd, 1)) (hp : pc' = pc + 1) (K : W h k n pc' Ls (.long (x + y) :: st)) : W h k n pc Ls (.long y :: .long x :: st) := by
  subst hp; exact C.plain (fun hA hx hb' hr => XT.ladd hA hx rfl (hb hb' hd) rfl hr) K
theorem Walk.lsub (C : Walk W l Z a0 tb own code ml rt nm R Q) (pc' : Nat) {x y : Int64} (hd : decode code pc = .ok (.lsub, 1)) (hp : pc' = pc + 1) (K : W h k n pc' Ls (.long (x - y) :: st)) : W h k n pc Ls (.long y :: .long x :: st) := by
  subst hp; exact C.plain (fun hA hx hb' hr => XT.lsub hA hx rfl (hb hb' hd) rfl hr) K
theorem Walk.lmul (C : Walk W l Z a0 tb own code ml rt nm R Q) (pc' : Nat) {x y : Int64} (hd : decode code pc = .ok (.lmul, 1)) (hp : pc' = pc + 1) (K : W h k n pc' Ls (.long (x * y) :: st)) : W h k n pc Ls (.long y :: .long x :: st) := by
  subst hp; exact C.plain (fun hA hx hb' hr => XT.lmul hA hx rfl (hb hb' hd) rfl hr) K
theorem Walk.land (C : Walk W l Z a0 tb own code ml rt nm R Q) (pc' : Nat) {x y : Int64} (hd : decode code pc = .ok (.land, 1)) (hp : pc' = pc + 1) (K : W h k n pc' Ls (.long (x &&& y) :: st)) : W h k n pc Ls (.long y :: .long x :: st) := by
  subst hp; exact C.plain (fun hA hx hb' hr => XT.land hA hx rfl (hb hb' hd) rfl hr) K
theorem Walk.lor (C : Walk W l Z a0 tb own code ml rt nm R Q) (pc' : Nat) {x y : Int64} (hd : decode code pc = .ok (.lor, 1)) (hp : pc' = pc + 1) (K : W h k n pc' Ls (.long (x ||| y) :: st)) : W h k n pc Ls (.long y :: .long x :: st) := by
  subst hp; exact C.plain (fun hA hx hb' hr => XT.lor hA hx rfl (hb hb' hd) rfl hr) K
theorem Walk.lxor (C : Walk W l Z a0 tb own code ml rt nm R Q) (pc' : Nat) {x y : Int64} (hd : decode code pc = .ok (.lxor, 1)) (hp : pc' = pc + 1) (K : W h k n pc' Ls (.long (x ^^^ y) :: st)) : W h k n pc Ls (.long y :: .long x :: st) := by
  subst hp; exact C.plain (fun hA hx hb' hr => XT.lxor hA hx rfl (hb hb' hd) rfl hr) K
theorem Walk.lcmp (C : Walk W l Z a0 tb own code ml rt nm R Q) (pc' : Nat) {x y : Int64} (hd : decode code pc = .ok (.lcmp, 1)) (hp : pc' = pc + 1) (K : W h k n pc' Ls (.int (XT.cmpL x y) :: st)) : W h k n pc Ls (.long y :: .long x :: st) := by
  subst hp; exact C.plain (fun hA hx hb' hr => XT.lcmp hA hx rfl (hb hb' hd) rfl hr) K
theorem Walk.idiv (C : Walk W l Z a0 tb own code ml rt nm R Q) (pc' : Nat) {x y : Int32} (hd : decode code pc = .ok (.idiv, 1)) (hp : pc' = pc + 1) (hy : y ≠ 0) (K : W h k n pc' Ls (.int (x / y) :: st)) : W h k n pc Ls (.int y :: .int x :: st) := by
  subst hp; exact C.plain (fun hA hx hb' hr => XS.idiv hA hx rfl (hb hb' hd) rfl hy hr) K
theorem Walk.irem (C : Walk W l Z a0 tb own code ml rt nm R Q) (pc' : Nat) {x y : Int32} (hd : decode code pc = .ok (.irem, 1)) (hp : pc' = pc + 1) (hy : y ≠ 0) (K : W h k n pc' Ls (.int (x % y) :: st)) : W h k n pc Ls (.int y :: .int x :: st) := by
  subst hp; rw [← irem_eq_mod] at K; exact C.plain (fun hA hx hb' hr => XS.irem hA hx rfl (hb hb' hd) rfl hy hr) K
theorem Walk.i2l (C : Walk W l Z a0 tb own code ml rt nm R Q) (pc' : Nat) {x : Int32} (hd : decode code pc = .ok (.i2l, 1)) (hp : pc' = pc + 1) (K : W h k n pc' Ls (.long x.toInt64 :: st)) : W h k n pc Ls (.int x :: st) := by
  subst hp; exact C.plain (fun hA hx hb' hr => XT.i2l hA hx rfl (hb hb' hd) rfl hr) K
theorem Walk.l2i (C : Walk W l Z a0 tb own code ml rt nm R Q) (pc' : Nat) {x : Int64} (hd : decode code pc = .ok (.l2i, 1)) (hp : pc' = pc + 1) (K : W h k n pc' Ls (.int x.toInt32 :: st)) : W h k n pc Ls (.long x :: st) := by
  subst hp; exact C.plain (fun hA hx hb' hr => XT.l2i hA hx rfl (hb hb' hd) rfl hr) K
theorem Walk.i2b (C : Walk W l Z a0 tb own code ml rt nm R Q) (pc' : Nat) {x : Int32} (hd : decode code pc = .ok (.i2b, 1)) (hp : pc' = pc + 1) (K : W h k n pc' Ls (.int x.toInt8.toInt32 :: st)) : W h k n pc Ls (.int x :: st) := by
  subst hp; exact C.plain (fun hA hx hb' hr => XT.i2b hA hx rfl (hb hb' hd) rfl hr) K
theorem Walk.i2c (C : Walk W l Z a0 tb own code ml rt nm R Q) (pc' : Nat) {x : Int32} (hd : decode code pc = .ok (.i2c, 1)) (hp : pc' = pc + 1) (K : W h k n pc' Ls (.int x.toUInt32.toUInt16.toUInt32.toInt32 :: st)) : W h k n pc Ls (.int x :: st) := by
  subst hp; exact C.plain (fun hA hx hb' hr => XT.i2c hA hx rfl (hb hb' hd) rfl hr) K
theorem Walk.ineg (C : Walk W l Z a0 tb own code ml rt nm R Q) (pc' : Nat) {x : Int32} (hd : decode code pc = .ok (.ineg, 1)) (hp : pc' = pc + 1) (K : W h k n pc' Ls (.int (-x) :: st)) : W h k n pc Ls (.int x :: st) := by
  subst hp; exact C.plain (fun hA hx hb' hr => XS.ineg hA hx rfl (hb hb' hd) rfl hr) K
theorem Walk.dup (C : Walk W l Z a0 tb own code ml rt nm R Q) (pc' : Nat) {x : Value} (hd : decode code pc = .ok (.dup, 1)) (hp : pc' = pc + 1) (hc : x.category = 1) (K : W h k n pc' Ls (x :: x :: st)) : W h k n pc Ls (x :: st) := by
  subst hp; exact C.plain (fun hA hx hb' hr => XS.dup hA hx rfl (hb hb' hd) rfl hc hr) K
theorem Walk.dupX1 (C : Walk W l Z a0 tb own code ml rt nm R Q) (pc' : Nat) {x y : Value} (hd : decode code pc = .ok (.dup_x1, 1)) (hp : pc' = pc + 1) (hc : x.category = 1) (hc' : y.category = 1) (K : W h k n pc' Ls (x :: y :: x :: st)) : W h k n pc Ls (x :: y :: st) := by
  subst hp; exact C.plain (fun hA hx hb' hr => XT.dupX1 hA hx rfl (hb hb' hd) rfl hc hc' hr) K
theorem Walk.dup2 (C : Walk W l Z a0 tb own code ml rt nm R Q) (pc' : Nat) {x y : Value} (hd : decode code pc = .ok (.dup2, 1)) (hp : pc' = pc + 1) (hc : x.category = 1) (hc' : y.category = 1) (K : W h k n pc' Ls (x :: y :: x :: y :: st)) : W h k n pc Ls (x :: y :: st) := by
  subst hp; exact C.plain (fun hA hx hb' hr => XT.dup2 hA hx rfl (hb hb' hd) rfl hc hc' hr) K
theorem Walk.pop (C : Walk W l Z a0 tb own code ml rt nm R Q) (pc' : Nat) {x : Value} (hd : decode code pc = .ok (.pop, 1)) (hp : pc' = pc + 1) (hc : x.category = 1) (K : W h k n pc' Ls st) : W h k n pc Ls (x :: st) := by
  subst hp; exact C.plain (fun hA hx hb' hr => XT.pop hA hx rfl (hb hb' hd) rfl hc hr) K
theorem Walk.iinc (C : Walk W l Z a0 tb own code ml rt nm R Q) (pc' : Nat) (Ls' : Array Slot) {i : Nat} {cst : Int} {x : Int32} (hd : decode code pc = .ok (.iinc i cst, 3)) (hp : pc' = pc + 3) (hl : Ls[i]? = some (.val (.int x))) (hl' : storeLocals Ls i (.int (x + Int32.ofInt cst)) = some Ls') (K : W h k n pc' Ls' st) : W h k n pc Ls st := by
  subst hp; exact C.plain (fun hA hx hb' hr => XS.iinc hA hx rfl (hb hb' hd) hl hl' hr) K
theorem Walk.goto (C : Walk W l Z a0 tb own code ml rt nm R Q) (pc' : Nat) {o : Int} (hd : decode code pc = .ok (.goto o, 3)) (hp : (pc : Int) + o = (pc' : Int)) (K : W h k n pc' Ls st) : W h k n pc Ls st :=
  C.plain (fun hA hx hb' hr => XS.goto hA hx rfl (pc0 := pc) (pc' := pc') rfl (hb hb' hd) (by omega) (by omega) hr) K
theorem Walk.ifT (C : Walk W l Z a0 tb own code ml rt nm R Q) (pc' : Nat) {cd : ClassFile.Cond} {x : Int32} {o : Int} (hd : decode code pc = .ok (.ifCond cd o, 3)) (hp : (pc : Int) + o = (pc' : Int)) (hc : ifCond.holds cd x = true) (K : W h k n pc' Ls st) : W h k n pc Ls (.int x :: st) :=
  C.plain (fun hA hx hb' hr => XS.ifYes hA hx rfl (pc0 := pc) (pc' := pc') rfl (hb hb' hd) rfl hc (by omega) (by omega) hr) K
theorem Walk.ifF (C : Walk W l Z a0 tb own code ml rt nm R Q) (pc' : Nat) {cd : ClassFile.Cond} {x : Int32} {o : Int} (hd : decode code pc = .ok (.ifCond cd o, 3)) (hp : pc' = pc + 3) (hc : ifCond.holds cd x = false) (K : W h k n pc' Ls st) : W h k n pc Ls (.int x :: st) := by
  subst hp; exact C.plain (fun hA hx hb' hr => XS.ifNo hA hx rfl (hb hb' hd) rfl hc hr) K
theorem Walk.icmpT (C : Walk W l Z a0 tb own code ml rt nm R Q) (pc' : Nat) {cd : ClassFile.Cond} {x y : Int32} {o : Int} (hd : decode code pc = .ok (.if_icmp cd o, 3)) (hp : (pc : Int) + o = (pc' : Int)) (hc : if_icmp.holds cd x y = true) (K : W h k n pc' Ls st) : W h k n pc Ls (.int y :: .int x :: st) :=
  C.plain (fun hA hx hb' hr => XS.icmpYes hA hx rfl (pc0 := pc) (pc' := pc') rfl (hb hb' hd) rfl hc (by omega) (by omega) hr) K
theorem Walk.icmpF (C : Walk W l Z a0 tb own code ml rt nm R Q) (pc' : Nat) {cd : ClassFile.Cond} {x y : Int32} {o : Int} (hd : decode code pc = .ok (.if_icmp cd o, 3)) (hp : pc' = pc + 3) (hc : if_icmp.holds cd x y = false) (K : W h k n pc' Ls st) : W h k n pc Ls (.int y :: .int x :: st) := by
  subst hp; exact C.plain (fun hA hx hb' hr => XS.icmpNo hA hx rfl (hb hb' hd) rfl hc hr) K
theorem Walk.acmpT (C : Walk W l Z a0 tb own code ml rt nm R Q) (pc' : Nat) {cd : ClassFile.ACond} {x y : Value} {o : Int} (hd : decode code pc = .ok (.if_acmp cd o, 3)) (hp : (pc : Int) + o = (pc' : Int)) (h1 : x.isRef = true) (h2 : y.isRef = true) (hc : XT.acmp cd x y = true) (K : W h k n pc' Ls st) : W h k n pc Ls (y :: x :: st) :=
  C.plain (fun hA hx hb' hr => XT.acmpYes hA hx rfl (pc0 := pc) (pc' := pc') rfl (hb hb' hd) rfl h1 h2 hc (by omega) (by omega) hr) K
theorem Walk.acmpF (C : Walk W l Z a0 tb own code ml rt nm R Q) (pc' : Nat) {cd : ClassFile.ACond} {x y : Value} {o : Int} (hd : decode code pc = .ok (.if_acmp cd o, 3)) (hp : pc' = pc + 3) (h1 : x.isRef = true) (h2 : y.isRef = true) (hc : XT.acmp cd x y = false) (K : W h k n pc' Ls st) : W h k n pc Ls (y :: x :: st) := by
  subst hp; exact C.plain (fun hA hx hb' hr => XT.acmpNo hA hx rfl (hb hb' hd) rfl h1 h2 hc hr) K
theorem Walk.ifnullT (C : Walk W l Z a0 tb own code ml rt nm R Q) (pc' : Nat) {o : Int} (hd : decode code pc = .ok (.ifnull o, 3)) (hp : (pc : Int) + o = (pc' : Int)) (K : W h k n pc' Ls st) : W h k n pc Ls (.null :: st) :=
  C.plain (fun hA hx hb' hr => XS.ifnullYes hA hx rfl (pc0 := pc) (pc' := pc') rfl (hb hb' hd) rfl (by omega) (by omega) hr) K
theorem Walk.ifnullF (C : Walk W l Z a0 tb own code ml rt nm R Q) (pc' : Nat) {b : Addr} {o : Int} (hd : decode code pc = .ok (.ifnull o, 3)) (hp : pc' = pc + 3) (K : W h k n pc' Ls st) : W h k n pc Ls (.ref b :: st) := by
  subst hp; exact C.plain (fun hA hx hb' hr => XS.ifnullNo hA hx rfl (hb hb' hd) rfl hr) K
theorem Walk.ifnonnullT (C : Walk W l Z a0 tb own code ml rt nm R Q) (pc' : Nat) {b : Addr} {o : Int} (hd : decode code pc = .ok (.ifnonnull o, 3)) (hp : (pc : Int) + o = (pc' : Int)) (K : W h k n pc' Ls st) : W h k n pc Ls (.ref b :: st) :=
  C.plain (fun hA hx hb' hr => XT.ifnonnullYes hA hx rfl (pc0 := pc) (pc' := pc') rfl (hb hb' hd) rfl (by omega) (by omega) hr) K
theorem Walk.ifnonnullF (C : Walk W l Z a0 tb own code ml rt nm R Q) (pc' : Nat) {o : Int} (hd : decode code pc = .ok (.ifnonnull o, 3)) (hp : pc' = pc + 3) (K : W h k n pc' Ls st) : W h k n pc Ls (.null :: st) := by
  subst hp; exact C.plain (fun hA hx hb' hr => XT.ifnonnullNo hA hx rfl (hb hb' hd) rfl hr) K
theorem Walk.lshl (C : Walk W l Z a0 tb own code ml rt nm R Q) (pc' : Nat) {x : Int64} {y : Int32} (hd : decode code pc = .ok (.lshl, 1)) (hp : pc' = pc + 1) (K : W h k n pc' Ls (.long (x <<< (y.toInt64 &&& 63)) :: st)) : W h k n pc Ls (.int y :: .long x :: st) := by
  subst hp; exact C.plain (fun hA hx hb' hr => XT.lshl hA hx rfl (hb hb' hd) rfl hr) K
theorem Walk.lshr (C : Walk W l Z a0 tb own code ml rt nm R Q) (pc' : Nat) {x : Int64} {y : Int32} (hd : decode code pc = .ok (.lshr, 1)) (hp : pc' = pc + 1) (K : W h k n pc' Ls (.long (x >>> (y.toInt64 &&& 63)) :: st)) : W h k n pc Ls (.int y :: .long x :: st) := by
  subst hp; exact C.plain (fun hA hx hb' hr => XT.lshr hA hx rfl (hb hb' hd) rfl hr) K
theorem Walk.lushr (C : Walk W l Z a0 tb own code ml rt nm R Q) (pc' : Nat) {x : Int64} {y : Int32} (hd : decode code pc = .ok (.lushr, 1)) (hp : pc' = pc + 1) (K : W h k n pc' Ls (.long (XT.ushrL x y) :: st)) : W h k n pc Ls (.int y :: .long x :: st) := by
  subst hp; exact C.plain (fun hA hx hb' hr => XT.lushr hA hx rfl (hb hb' hd) rfl hr) K
/-! the returns -/
theorem Walk.ret (C : Walk W l Z a0 tb own code ml rt nm R Q) {v : Value} {t : FieldType} {i : Instr} (hd : decode code pc = .ok (i, 1)) (hrt : rt = some t) (hn : narrow t v = v)
    (hi : (i = .ireturn ∧ (t = .int ∨ t = .boolean ∨ t = .byte ∨ t = .char ∨ t = .short) ∧ ∃ z, v = .int z) ∨ (i = .lreturn ∧ t = .long ∧ ∃ z, v = .long z) ∨ (i = .dreturn ∧ t = .double ∧ ∃ z, v = .double z) ∨ (i = .freturn ∧ t = .float ∧ ∃ z, v = .float z) ∨ (i = .areturn ∧ t.isReference = true ∧ v.isRef = true))
    (hq : Q (some v) h) (hk : k ≤ R.cells) (hs : n ≤ R.slots) : W h k n pc Ls (v :: st) := by
  obtain ⟨p, e, s, m, args, below, meth, c, rfl, hx, hby, hml, hown, hrt', hlk, hZ, hnm, hw⟩ := C
  intro hE T locs X eT N
  subst eT hrt
  obtain ⟨fs, hr, hrun, hended, hW, hsame⟩ := X.leave (v := some v) (fun h => by rw [hrt'] at h; cases h)
  exact ⟨_, _, retOut X hx hrt' hn hi (hb hby hd) hr, hrun, hended, _, _, rfl, ⟨hq, hE, N⟩, ⟨_, rfl⟩, hW, hsame.mono hk hs⟩
theorem Walk.retI (C : Walk W l Z a0 tb own code ml rt nm R Q) {x : Int32} (t : FieldType) (hd : decode code pc = .ok (.ireturn, 1)) (hrt : rt = some t) (ht : t = .int ∨ t = .boolean ∨ t = .byte ∨ t = .char ∨ t = .short) (hn : nar t x = x)
    (hk : k ≤ R.cells) (hs : n ≤ R.slots) (hq : Q (some (.int x)) h) : W h k n pc Ls (.int x :: st) :=
  C.ret hd hrt (by have e : narrow t (.int x) = .int (nar t x) := by rcases ht with rfl | rfl | rfl | rfl | rfl <;> rfl
                   rw [e, hn]) (Or.inl ⟨rfl, ht, _, rfl⟩) hq hk hs
theorem Walk.retA (C : Walk W l Z a0 tb own code ml rt nm R Q) {v : Value} (t : FieldType) (hd : decode code pc = .ok (.areturn, 1)) (hrt : rt = some t) (ht : t.isReference = true) (hv : v.isRef = true)
    (hk : k ≤ R.cells) (hs : n ≤ R.slots) (hq : Q (some v) h) : W h k n pc Ls (v :: st) :=
  C.ret hd hrt (by cases t <;> first | (cases ht; done) | (cases v <;> first | (cases hv; done) | rfl)) (Or.inr (Or.inr (Or.inr (Or.inr ⟨rfl, ht, hv⟩)))) hq hk hs
theorem Walk.ret0 (C : Walk W l Z a0 tb own code ml rt nm R Q) (hd : decode code pc = .ok (.return_, 1)) (hrt : rt = none) (hk : k ≤ R.cells) (hs : n ≤ R.slots) (hq : Q none h) : W h k n pc Ls [] := by
  obtain ⟨p, e, s, m, args, below, meth, c, rfl, hx, hby, hml, hown, hrt', hlk, hZ, hnm, hw⟩ := C
  intro hE T locs X eT N
  subst eT hrt
  obtain ⟨fs, hr, hrun, hended, hW, hsame⟩ := X.leave (v := none) (fun _ => rfl)
  exact ⟨_, _, X.returnOut hx hrt' (hb hby hd) hr, hrun, hended, _, _, rfl, ⟨hq, hE, N⟩, ⟨_, rfl⟩, hW, hsame.mono hk hs⟩
/-! constants of the pool, static fields, fields -/
theorem Walk.ldc (C : Walk W l Z a0 tb own code ml rt nm R Q) (pc' : Nat) (v : Int32) {idx : Nat} (hd : decode code pc = .ok (.ldc idx, 2)) (hp : pc' = pc + 2) (w : Jvm.Cond.constant own idx v ∈ tb) (K : W h k n pc' Ls (.int v :: st)) : W h k n pc Ls st := by
  obtain ⟨p, e, s, m, args, below, meth, c, rfl, hx, hby, hml, hown, hrt', hlk, hZ, hnm, hw⟩ := C
  intro hE T locs X eT N
  subst hp
  obtain ⟨u, o, h1, h2⟩ := K hE T locs X eT N
  exact ⟨u, o, X.ldcI hx hown (mv hZ (hw _ w)) rfl (hb hby hd) h1, h2⟩
theorem Walk.ldcW (C : Walk W l Z a0 tb own code ml rt nm R Q) (pc' : Nat) (v : Int32) {idx : Nat} (hd : decode code pc = .ok (.ldc_w idx, 3)) (hp : pc' = pc + 3) (w : Jvm.Cond.constant own idx v ∈ tb) (K : W h k n pc' Ls (.int v :: st)) : W h k n pc Ls st := by
  obtain ⟨p, e, s, m, args, below, meth, c, rfl, hx, hby, hml, hown, hrt', hlk, hZ, hnm, hw⟩ := C
  intro hE T locs X eT N
  subst hp
  obtain ⟨u, o, h1, h2⟩ := K hE T locs X eT N
  exact ⟨u, o, X.ldcWI hx hown (mv hZ (hw _ w)) rfl (hb hby hd) h1, h2⟩
theorem Walk.ldc2 (C : Walk W l Z a0 tb own code ml rt nm R Q) (pc' : Nat) (v : Int64) {idx : Nat} (hd : decode code pc = .ok (.ldc2_w idx, 3)) (hp : pc' = pc + 3) (w : Jvm.Cond.constantLong own idx v ∈ tb) (K : W h k n pc' Ls (.long v :: st)) : W h k n pc Ls st := by
  obtain ⟨p, e, s, m, args, below, meth, c, rfl, hx, hby, hml, hown, hrt', hlk, hZ, hnm, hw⟩ := C
  intro hE T locs X eT N
  subst hp
  obtain ⟨u, o, h1, h2⟩ := K hE T locs X eT N
  exact ⟨u, o, X.ldc2J hx hown (mv hZ (hw _ w)) rfl (hb hby hd) h1, h2⟩
theorem Walk.getstatic (C : Walk W l Z a0 tb own code ml rt nm R Q) (pc' : Nat) {idx : Nat} {O f d : String} {v : Value} (hd : decode code pc = .ok (.getstatic idx, 3)) (hp : pc' = pc + 3) (w : Jvm.Cond.fieldLink own idx O f d ∈ tb) (F : Sta Z Z.heap O f d v) (K : W h k n pc' Ls (v :: st)) : W h k n pc Ls st := by
  obtain ⟨p, e, s, m, args, below, meth, c, rfl, hx, hby, hml, hown, hrt', hlk, hZ, hnm, hw⟩ := C
  intro hE T locs X eT N
  subst hp
  obtain ⟨T', X', e', S⟩ := getS X hx hZ hown (host := "") (hw _ w) Via.refl eT (F.ext hE) (g := mkF m pc Ls st) rfl (hb hby hd)
  obtain ⟨u, o, h1, h2⟩ := K hE T' locs X' e' N
  exact ⟨u, o, S _ h1, h2⟩
theorem Walk.getfield (C : Walk W l Z a0 tb own code ml rt nm R Q) (pc' : Nat) {idx : Nat} {R0 O f d : String} {a : Addr} {v : Value} (hd : decode code pc = .ok (.getfield idx, 3)) (hp : pc' = pc + 3) (w : Jvm.Cond.fieldLink own idx R0 f d ∈ tb) (via : Via Z R0 O f d) (F : Fld Z h a O f d v) (K : W h k n pc' Ls (v :: st)) : W h k n pc Ls (.ref a :: st) := by
  obtain ⟨p, e, s, m, args, below, meth, c, rfl, hx, hby, hml, hown, hrt', hlk, hZ, hnm, hw⟩ := C
  intro hE T locs X eT N
  subst hp
  obtain ⟨T', X', e', S⟩ := getF X hx hZ hown (host := "") (Or.inl (hw _ w)) via eT F (g := mkF m pc Ls (.ref a :: st)) rfl rfl (hb hby hd)
  obtain ⟨u, o, h1, h2⟩ := K hE T' locs X' e' N
  exact ⟨u, o, S _ h1, h2⟩
theorem Walk.getfieldOld (C : Walk W l Z a0 tb own code ml rt nm R Q) (pc' : Nat) {idx : Nat} {R0 O f d : String} {a : Addr} {v : Value} (hd : decode code pc = .ok (.getfield idx, 3)) (hp : pc' = pc + 3) (w : Jvm.Cond.fieldLink own idx R0 f d ∈ tb) (via : Via Z R0 O f d) (F : Fld Z Z.heap a O f d v) (K : W h k n pc' Ls (v :: st)) : W h k n pc Ls (.ref a :: st) :=
  C.kept fun hE => C.getfield pc' hd hp w via (F.ext hE) K
theorem Walk.putfield (C : Walk W l Z a0 tb own code ml rt nm R Q) (pc' : Nat) {idx kk : Nat} {R0 O f d D : String} {a : Addr} {v v' old : Value} (ty : FieldType) (hd : decode code pc = .ok (.putfield idx, 3)) (hp : pc' = pc + 3) (w : Jvm.Cond.fieldLink own idx R0 f d ∈ tb) (via : Via Z R0 O f d) (F : Fld Z h a O f d old) (E : Exa Z h a D)
    (L : Jvm.Cond.lays D O f d ∈ tb ∨ (Jvm.Cond.laysFinal D O f d ∈ tb ∧ own = O ∧ nm = "<init>")) (wi : Jvm.Cond.instantiable D kk ∈ tb) (hty : parseFieldDescriptor d = some ty) (hn : narrow ty v = v') (hf : fits ty v' = true) (ha : Z.heap.size ≤ a)
    (K : ∀ h', Wr h h' a (Jvm.RoadKit.slotOf Z O f d) v' → W h' k n pc' Ls st) : W h k n pc Ls (v :: .ref a :: st) := by
  obtain ⟨p, e, s, m, args, below, meth, c, rfl, hx, hby, hml, hown, hrt', hlk, hZ, hnm, hw⟩ := C
  intro hE T locs X eT N
  subst hp
  obtain ⟨T', h', X', e', Wr', S⟩ := putFN X hx hZ hown (hw _ w) via eT F E (L.imp (hw _) fun q => ⟨hw _ q.1, q.2.1, hnm.trans q.2.2⟩) (hw _ wi) hty hn hf (g := mkF m pc Ls (v :: .ref a :: st)) rfl rfl (hb hby hd)
  obtain ⟨u, o, h1, h2⟩ := K h' Wr' (Old.wr (n0 := Z.heap.size) ⟨rfl, hE⟩ Wr' ha).2 T' _ X' e' (Fr.snoc X' N ha)
  exact ⟨u, o, S _ h1, h2⟩
/-! arrays: the places' values as a list -/
def Al (Z : State) (h : Heap) (a : Addr) (ty : FieldType) (vs : List Value) : Prop := ∃ c : Cell, Arr Z h a c ty ∧ c.slots.toList = vs
theorem Al.lt {a : Addr} {ty : FieldType} {vs : List Value} (A : Al Z h a ty vs) : a < h.size := by obtain ⟨c, A, -⟩ := A; exact A.lt
theorem Al.ext {h' : Heap} {a : Addr} {ty : FieldType} {vs : List Value} (A : Al Z h a ty vs) (E : Ext h h') : Al Z h' a ty vs := by obtain ⟨c, A, q⟩ := A; exact ⟨c, A.ext E, q⟩
theorem Al.keep {h' : Heap} {a : Addr} {ty : FieldType} {vs : List Value} {ws : List Addr} (A : Al Z h a ty vs) (K : Keep h h' ws) (q : a ∉ ws) : Al Z h' a ty vs := by obtain ⟨c, A, r⟩ := A; exact ⟨c, ⟨K.2.1 a c A.1 q, A.2⟩, r⟩
theorem Al.set {h' : Heap} {a : Addr} {ty : FieldType} {vs : List Value} {i : Nat} {v : Value} (A : Al Z h a ty vs) (Wr' : Wr h h' a i v) : Al Z h' a ty (vs.set i v) := by
  obtain ⟨c, A, rfl⟩ := A
  exact ⟨_, A.same Wr', by simp [Cell.setSlot]⟩
theorem list_at {c : Cell} {vs : List Value} (q : c.slots.toList = vs) (i : Nat) : c.slots[i]? = vs[i]? := by subst q; simp
theorem list_sz {c : Cell} {vs : List Value} (q : c.slots.toList = vs) : c.slots.size = vs.length := by subst q; simp
theorem Walk.newarray (C : Walk W l Z a0 tb own code ml rt nm R Q) (pc' : Nat) {aty : ArrayType} {z : Int32} (cap : Nat) (hd : decode code pc = .ok (.newarray aty, 2)) (hp : pc' = pc + 2) (w : Jvm.Cond.arrayClass (newarray.typeOf aty) ∈ tb) (hz : ¬ z < 0) (hcap : z.toNatClampNeg ≤ cap) (hb' : cap * 8 ≤ 536870912) (hc : k + 1 ≤ R.cells) (hl : n + cap ≤ R.slots)
    (K : ∀ h', Ext h h' → Al Z h' h.size (newarray.typeOf aty) (List.replicate z.toNatClampNeg (defaultValue (newarray.typeOf aty))) → W h' (k + 1) (n + cap) pc' Ls (.ref h.size :: st)) : W h k n pc Ls (.int z :: st) := by
  obtain ⟨p, e, s, m, args, below, meth, c, rfl, hx, hby, hml, hown, hrt', hlk, hZ, hnm, hw⟩ := C
  intro hE T locs X eT N
  subst hp
  obtain ⟨T', h', cA, X', e', E', A', S⟩ := newP X hx hZ (hw _ w) eT (g := mkF m pc Ls (.int z :: st)) rfl (hb hby hd) rfl hz hcap hb' hc hl
  obtain ⟨u, o, h1, h2⟩ := K h' E' ⟨_, A', by simp [newA]⟩ (Old.ext (n0 := Z.heap.size) ⟨rfl, hE⟩ E').2 T' _ X' e' N
  exact ⟨u, o, S _ h1, h2⟩
theorem Walk.anewarray (C : Walk W l Z a0 tb own code ml rt nm R Q) (pc' : Nat) {idx : Nat} {D : String} {z : Int32} (cap : Nat) (hd : decode code pc = .ok (.anewarray idx, 3)) (hp : pc' = pc + 3) (w : Jvm.Cond.classLink own idx D ∈ tb) (w2 : Jvm.Cond.arrayOver (.object D) ∈ tb) (hz : ¬ z < 0) (hcap : z.toNatClampNeg ≤ cap) (hb' : cap * 8 ≤ 536870912) (hc : k + 1 ≤ R.cells) (hl : n + cap ≤ R.slots)
    (K : ∀ h' cA, Ext h h' → (∃ c : Cell, Arr Z h' h.size c (.object D) ∧ c.cls = cA ∧ c.slots.toList = List.replicate z.toNatClampNeg .null) → Ovr Z cA D → W h' (k + 1) (n + cap) pc' Ls (.ref h.size :: st)) : W h k n pc Ls (.int z :: st) := by
  obtain ⟨p, e, s, m, args, below, meth, c, rfl, hx, hby, hml, hown, hrt', hlk, hZ, hnm, hw⟩ := C
  intro hE T locs X eT N
  subst hp
  obtain ⟨T', h', cA, X', e', E', A', O', S⟩ := newR X hx hZ hown (hw _ w) (hw _ w2) eT (g := mkF m pc Ls (.int z :: st)) rfl (hb hby hd) rfl hz hcap hb' hc hl
  obtain ⟨u, o, h1, h2⟩ := K h' cA E' ⟨_, A', rfl, by simp [newA, defaultValue]⟩ O' (Old.ext (n0 := Z.heap.size) ⟨rfl, hE⟩ E').2 T' _ X' e' N
  exact ⟨u, o, S _ h1, h2⟩
/-- an array over the class D: its class, its places -/
def Ro (Z : State) (h : Heap) (a : Addr) (D : String) (cA : ClassId) (vs : List Value) : Prop := ∃ c : Cell, Arr Z h a c (.object D) ∧ c.cls = cA ∧ c.slots.toList = vs
theorem Ro.lt {a : Addr} {D : String} {cA : ClassId} {vs : List Value} (A : Ro Z h a D cA vs) : a < h.size := by obtain ⟨c, A, -⟩ := A; exact A.lt
theorem Ro.ext {h' : Heap} {a : Addr} {D : String} {cA : ClassId} {vs : List Value} (A : Ro Z h a D cA vs) (E : Ext h h') : Ro Z h' a D cA vs := by obtain ⟨c, A, q⟩ := A; exact ⟨c, A.ext E, q⟩
theorem Ro.keep {h' : Heap} {a : Addr} {D : String} {cA : ClassId} {vs : List Value} {ws : List Addr} (A : Ro Z h a D cA vs) (K : Keep h h' ws) (q : a ∉ ws) : Ro Z h' a D cA vs := by obtain ⟨c, A, r⟩ := A; exact ⟨c, ⟨K.2.1 a c A.1 q, A.2⟩, r⟩
theorem Walk.aastore (C : Walk W l Z a0 tb own code ml rt nm R Q) (pc' : Nat) {a b : Addr} {D : String} {cA : ClassId} {vs : List Value} {j : Int32} (i : Nat) (hd : decode code pc = .ok (.aastore, 1)) (hp : pc' = pc + 1) (A : Ro Z h a D cA vs) (O : Ovr Z cA D) (I : Ins Z h b D true) (ha : Z.heap.size ≤ a) (hn : ¬ j < 0) (hi : j.toNatClampNeg = i) (hl : i < vs.length)
    (K : ∀ h', Wr h h' a i (.ref b) → Ro Z h' a D cA (vs.set i (.ref b)) → W h' k n pc' Ls st) : W h k n pc Ls (.ref b :: .int j :: .ref a :: st) := by
  obtain ⟨p, e, s, m, args, below, meth, c, rfl, hx, hby, hml, hown, hrt', hlk, hZ, hnm, hw⟩ := C
  intro hE T locs X eT N
  subst hp
  obtain ⟨cl, A1, A2, A3⟩ := A
  have hj : ¬ (j < 0 ∨ cl.slots.size ≤ j.toNatClampNeg) := by rw [list_sz A3, hi]; exact fun q => q.elim hn (fun q => absurd hl (Nat.not_lt.mpr q))
  obtain ⟨T', h', X', e', Wr', S⟩ := stR X hx hZ eT A1 hj rfl (Sto.ofV A1 A2 O I) (g := mkF m pc Ls (.ref b :: .int j :: .ref a :: st)) rfl rfl (hb hby hd)
  rw [hi] at Wr'
  have R' : Ro Z h' a D cA (vs.set i (.ref b)) := ⟨_, A1.same Wr', by simpa [Cell.setSlot] using A2, by subst A3; simp [Cell.setSlot]⟩
  obtain ⟨u, o, h1, h2⟩ := K h' Wr' R' (Old.wr (n0 := Z.heap.size) ⟨rfl, hE⟩ Wr' ha).2 T' _ X' e' (Fr.snoc X' N ha)
  exact ⟨u, o, S _ h1, h2⟩
theorem Walk.castore (C : Walk W l Z a0 tb own code ml rt nm R Q) (pc' : Nat) {a : Addr} {vs : List Value} {j x : Int32} (i : Nat) (x' : Int32) (hd : decode code pc = .ok (.castore, 1)) (hp : pc' = pc + 1) (A : Al Z h a .char vs) (ha : Z.heap.size ≤ a) (hn : ¬ j < 0) (hi : j.toNatClampNeg = i) (hl : i < vs.length) (hx' : nar .char x = x')
    (K : ∀ h', Wr h h' a i (.int x') → Al Z h' a .char (vs.set i (.int x')) → W h' k n pc' Ls st) : W h k n pc Ls (.int x :: .int j :: .ref a :: st) := by
  obtain ⟨p, e, s, m, args, below, meth, c, rfl, hx, hby, hml, hown, hrt', hlk, hZ, hnm, hw⟩ := C
  intro hE T locs X eT N
  subst hp
  have A' := A
  obtain ⟨cl, A1, A3⟩ := A
  have hj : ¬ (j < 0 ∨ cl.slots.size ≤ j.toNatClampNeg) := by rw [list_sz A3, hi]; exact fun q => q.elim hn (fun q => absurd hl (Nat.not_lt.mpr q))
  obtain ⟨T', h', X', e', Wr', S⟩ := stC X hx hZ eT A1 hj (g := mkF m pc Ls (.int x :: .int j :: .ref a :: st)) rfl rfl (hb hby hd)
  rw [hi, hx'] at Wr'
  obtain ⟨u, o, h1, h2⟩ := K h' Wr' (A'.set Wr') (Old.wr (n0 := Z.heap.size) ⟨rfl, hE⟩ Wr' ha).2 T' _ X' e' (Fr.snoc X' N ha)
  exact ⟨u, o, S _ h1, h2⟩
theorem Walk.bastoreB (C : Walk W l Z a0 tb own code ml rt nm R Q) (pc' : Nat) {a : Addr} {vs : List Value} {j x : Int32} (i : Nat) (x' : Int32) (hd : decode code pc = .ok (.bastore, 1)) (hp : pc' = pc + 1) (A : Al Z h a .byte vs) (ha : Z.heap.size ≤ a) (hn : ¬ j < 0) (hi : j.toNatClampNeg = i) (hl : i < vs.length) (hx' : nar .byte x = x')
    (K : ∀ h', Wr h h' a i (.int x') → Al Z h' a .byte (vs.set i (.int x')) → W h' k n pc' Ls st) : W h k n pc Ls (.int x :: .int j :: .ref a :: st) := by
  obtain ⟨p, e, s, m, args, below, meth, c, rfl, hx, hby, hml, hown, hrt', hlk, hZ, hnm, hw⟩ := C
  intro hE T locs X eT N
  subst hp
  have A' := A
  obtain ⟨cl, A1, A3⟩ := A
  have hj : ¬ (j < 0 ∨ cl.slots.size ≤ j.toNatClampNeg) := by rw [list_sz A3, hi]; exact fun q => q.elim hn (fun q => absurd hl (Nat.not_lt.mpr q))
  obtain ⟨T', h', X', e', Wr', S⟩ := stB X hx hZ eT A1 hj (g := mkF m pc Ls (.int x :: .int j :: .ref a :: st)) rfl rfl (hb hby hd)
  rw [hi, hx'] at Wr'
  obtain ⟨u, o, h1, h2⟩ := K h' Wr' (A'.set Wr') (Old.wr (n0 := Z.heap.size) ⟨rfl, hE⟩ Wr' ha).2 T' _ X' e' (Fr.snoc X' N ha)
  exact ⟨u, o, S _ h1, h2⟩
theorem Walk.bastoreZ (C : Walk W l Z a0 tb own code ml rt nm R Q) (pc' : Nat) {a : Addr} {vs : List Value} {j x : Int32} (i : Nat) (x' : Int32) (hd : decode code pc = .ok (.bastore, 1)) (hp : pc' = pc + 1) (A : Al Z h a .boolean vs) (ha : Z.heap.size ≤ a) (hn : ¬ j < 0) (hi : j.toNatClampNeg = i) (hl : i < vs.length) (hx' : nar .boolean x = x')
    (K : ∀ h', Wr h h' a i (.int x') → Al Z h' a .boolean (vs.set i (.int x')) → W h' k n pc' Ls st) : W h k n pc Ls (.int x :: .int j :: .ref a :: st) := by
  obtain ⟨p, e, s, m, args, below, meth, c, rfl, hx, hby, hml, hown, hrt', hlk, hZ, hnm, hw⟩ := C
  intro hE T locs X eT N
  subst hp
  have A' := A
  obtain ⟨cl, A1, A3⟩ := A
  have hj : ¬ (j < 0 ∨ cl.slots.size ≤ j.toNatClampNeg) := by rw [list_sz A3, hi]; exact fun q => q.elim hn (fun q => absurd hl (Nat.not_lt.mpr q))
  obtain ⟨T', h', X', e', Wr', S⟩ := stZ X hx hZ eT A1 hj (g := mkF m pc Ls (.int x :: .int j :: .ref a :: st)) rfl rfl (hb hby hd)
  rw [hi, hx'] at Wr'
  obtain ⟨u, o, h1, h2⟩ := K h' Wr' (A'.set Wr') (Old.wr (n0 := Z.heap.size) ⟨rfl, hE⟩ Wr' ha).2 T' _ X' e' (Fr.snoc X' N ha)
  exact ⟨u, o, S _ h1, h2⟩
theorem Walk.iastore (C : Walk W l Z a0 tb own code ml rt nm R Q) (pc' : Nat) {a : Addr} {vs : List Value} {j x : Int32} (i : Nat) (hd : decode code pc = .ok (.iastore, 1)) (hp : pc' = pc + 1) (A : Al Z h a .int vs) (ha : Z.heap.size ≤ a) (hn : ¬ j < 0) (hi : j.toNatClampNeg = i) (hl : i < vs.length)
    (K : ∀ h', Wr h h' a i (.int x) → Al Z h' a .int (vs.set i (.int x)) → W h' k n pc' Ls st) : W h k n pc Ls (.int x :: .int j :: .ref a :: st) := by
  obtain ⟨p, e, s, m, args, below, meth, c, rfl, hx, hby, hml, hown, hrt', hlk, hZ, hnm, hw⟩ := C
  intro hE T locs X eT N
  subst hp
  have A' := A
  obtain ⟨cl, A1, A3⟩ := A
  have hj : ¬ (j < 0 ∨ cl.slots.size ≤ j.toNatClampNeg) := by rw [list_sz A3, hi]; exact fun q => q.elim hn (fun q => absurd hl (Nat.not_lt.mpr q))
  obtain ⟨T', h', X', e', Wr', S⟩ := stI X hx hZ eT A1 hj (g := mkF m pc Ls (.int x :: .int j :: .ref a :: st)) rfl rfl (hb hby hd)
  rw [hi] at Wr'
  obtain ⟨u, o, h1, h2⟩ := K h' Wr' (A'.set Wr') (Old.wr (n0 := Z.heap.size) ⟨rfl, hE⟩ Wr' ha).2 T' _ X' e' (Fr.snoc X' N ha)
  exact ⟨u, o, S _ h1, h2⟩
theorem Walk.iaload (C : Walk W l Z a0 tb own code ml rt nm R Q) (pc' : Nat) {a : Addr} {vs : List Value} {j : Int32} (i : Nat) (v : Value) (hd : decode code pc = .ok (.iaload, 1)) (hp : pc' = pc + 1) (A : Al Z h a .int vs) (hn : ¬ j < 0) (hi : j.toNatClampNeg = i) (hv : vs[i]? = some v)
    (K : W h k n pc' Ls (v :: st)) : W h k n pc Ls (.int j :: .ref a :: st) := by
  obtain ⟨p, e, s, m, args, below, meth, c, rfl, hx, hby, hml, hown, hrt', hlk, hZ, hnm, hw⟩ := C
  intro hE T locs X eT N
  subst hp
  obtain ⟨cl, A1, A3⟩ := A
  have hl : i < vs.length := (List.getElem?_eq_some_iff.mp hv).1
  have hj : ¬ (j < 0 ∨ cl.slots.size ≤ j.toNatClampNeg) := by rw [list_sz A3, hi]; exact fun q => q.elim hn (fun q => absurd hl (Nat.not_lt.mpr q))
  obtain ⟨u, o, h1, h2⟩ := K hE T _ X eT N
  exact ⟨u, o, X.iaload hx (by rw [eT]; exact A1.1) (State.isArrayOf_alike hZ.alike A1.2.1) A1.2.2 hj (by rw [hi, list_at A3]; exact hv) (g := mkF m pc Ls (.int j :: .ref a :: st)) rfl rfl (hb hby hd) _ h1, h2⟩
theorem Walk.caload (C : Walk W l Z a0 tb own code ml rt nm R Q) (pc' : Nat) {a : Addr} {vs : List Value} {j : Int32} (i : Nat) (v : Value) (hd : decode code pc = .ok (.caload, 1)) (hp : pc' = pc + 1) (A : Al Z h a .char vs) (hn : ¬ j < 0) (hi : j.toNatClampNeg = i) (hv : vs[i]? = some v)
    (K : W h k n pc' Ls (v :: st)) : W h k n pc Ls (.int j :: .ref a :: st) := by
  obtain ⟨p, e, s, m, args, below, meth, c, rfl, hx, hby, hml, hown, hrt', hlk, hZ, hnm, hw⟩ := C
  intro hE T locs X eT N
  subst hp
  obtain ⟨cl, A1, A3⟩ := A
  have hl : i < vs.length := (List.getElem?_eq_some_iff.mp hv).1
  have hj : ¬ (j < 0 ∨ cl.slots.size ≤ j.toNatClampNeg) := by rw [list_sz A3, hi]; exact fun q => q.elim hn (fun q => absurd hl (Nat.not_lt.mpr q))
  obtain ⟨u, o, h1, h2⟩ := K hE T _ X eT N
  exact ⟨u, o, X.caload hx (by rw [eT]; exact A1.1) (State.isArrayOf_alike hZ.alike A1.2.1) A1.2.2 hj (by rw [hi, list_at A3]; exact hv) (g := mkF m pc Ls (.int j :: .ref a :: st)) rfl rfl (hb hby hd) _ h1, h2⟩
theorem Walk.baloadB (C : Walk W l Z a0 tb own code ml rt nm R Q) (pc' : Nat) {a : Addr} {vs : List Value} {j : Int32} (i : Nat) (v : Value) (hd : decode code pc = .ok (.baload, 1)) (hp : pc' = pc + 1) (A : Al Z h a .byte vs) (hn : ¬ j < 0) (hi : j.toNatClampNeg = i) (hv : vs[i]? = some v)
    (K : W h k n pc' Ls (v :: st)) : W h k n pc Ls (.int j :: .ref a :: st) := by
  obtain ⟨p, e, s, m, args, below, meth, c, rfl, hx, hby, hml, hown, hrt', hlk, hZ, hnm, hw⟩ := C
  intro hE T locs X eT N
  subst hp
  obtain ⟨cl, A1, A3⟩ := A
  have hl : i < vs.length := (List.getElem?_eq_some_iff.mp hv).1
  have hj : ¬ (j < 0 ∨ cl.slots.size ≤ j.toNatClampNeg) := by rw [list_sz A3, hi]; exact fun q => q.elim hn (fun q => absurd hl (Nat.not_lt.mpr q))
  obtain ⟨u, o, h1, h2⟩ := K hE T _ X eT N
  exact ⟨u, o, X.baloadBytes hx (by rw [eT]; exact A1.1) (State.isArrayOf_alike hZ.alike A1.2.1) A1.2.2 hj (by rw [hi, list_at A3]; exact hv) (g := mkF m pc Ls (.int j :: .ref a :: st)) rfl rfl (hb hby hd) _ h1, h2⟩
theorem Walk.baloadZ (C : Walk W l Z a0 tb own code ml rt nm R Q) (pc' : Nat) {a : Addr} {vs : List Value} {j : Int32} (i : Nat) (v : Value) (hd : decode code pc = .ok (.baload, 1)) (hp : pc' = pc + 1) (A : Al Z h a .boolean vs) (hn : ¬ j < 0) (hi : j.toNatClampNeg = i) (hv : vs[i]? = some v)
    (K : W h k n pc' Ls (v :: st)) : W h k n pc Ls (.int j :: .ref a :: st) := by
  obtain ⟨p, e, s, m, args, below, meth, c, rfl, hx, hby, hml, hown, hrt', hlk, hZ, hnm, hw⟩ := C
  intro hE T locs X eT N
  subst hp
  obtain ⟨cl, A1, A3⟩ := A
  have hl : i < vs.length := (List.getElem?_eq_some_iff.mp hv).1
  have hj : ¬ (j < 0 ∨ cl.slots.size ≤ j.toNatClampNeg) := by rw [list_sz A3, hi]; exact fun q => q.elim hn (fun q => absurd hl (Nat.not_lt.mpr q))
  obtain ⟨u, o, h1, h2⟩ := K hE T _ X eT N
  exact ⟨u, o, X.baloadBooleans hx (by rw [eT]; exact A1.1) (State.isArrayOf_alike hZ.alike A1.2.1) A1.2.2 hj (by rw [hi, list_at A3]; exact hv) (g := mkF m pc Ls (.int j :: .ref a :: st)) rfl rfl (hb hby hd) _ h1, h2⟩
theorem Walk.aaload (C : Walk W l Z a0 tb own code ml rt nm R Q) (pc' : Nat) {a : Addr} {D : String} {cA : ClassId} {vs : List Value} {j : Int32} (i : Nat) (v : Value) (hd : decode code pc = .ok (.aaload, 1)) (hp : pc' = pc + 1) (A : Ro Z h a D cA vs) (hn : ¬ j < 0) (hi : j.toNatClampNeg = i) (hv : vs[i]? = some v)
    (K : W h k n pc' Ls (v :: st)) : W h k n pc Ls (.int j :: .ref a :: st) := by
  obtain ⟨p, e, s, m, args, below, meth, c, rfl, hx, hby, hml, hown, hrt', hlk, hZ, hnm, hw⟩ := C
  intro hE T locs X eT N
  subst hp
  obtain ⟨cl, A1, A2, A3⟩ := A
  have hl : i < vs.length := (List.getElem?_eq_some_iff.mp hv).1
  have hj : ¬ (j < 0 ∨ cl.slots.size ≤ j.toNatClampNeg) := by rw [list_sz A3, hi]; exact fun q => q.elim hn (fun q => absurd hl (Nat.not_lt.mpr q))
  obtain ⟨u, o, h1, h2⟩ := K hE T _ X eT N
  exact ⟨u, o, X.aaload hx (by rw [eT]; exact A1.1) (State.isArrayOf_alike hZ.alike A1.2.1) rfl A1.2.2 hj (by rw [hi, list_at A3]; exact hv) (g := mkF m pc Ls (.int j :: .ref a :: st)) rfl rfl (hb hby hd) _ h1, h2⟩
theorem Walk.arraylength (C : Walk W l Z a0 tb own code ml rt nm R Q) (pc' : Nat) {a : Addr} {ty : FieldType} {vs : List Value} (z : Int32) (hd : decode code pc = .ok (.arraylength, 1)) (hp : pc' = pc + 1) (A : Al Z h a ty vs) (hz : vs.length.toInt32 = z)
    (K : W h k n pc' Ls (.int z :: st)) : W h k n pc Ls (.ref a :: st) := by
  obtain ⟨p, e, s, m, args, below, meth, c, rfl, hx, hby, hml, hown, hrt', hlk, hZ, hnm, hw⟩ := C
  intro hE T locs X eT N
  subst hp
  obtain ⟨cl, A1, A3⟩ := A
  obtain ⟨u, o, h1, h2⟩ := K hE T _ X eT N
  rw [← hz, ← list_sz A3] at h1
  exact ⟨u, o, X.arraylength hx (by rw [eT]; exact A1.1) (State.isArrayOf_alike hZ.alike A1.2.1) (g := mkF m pc Ls (.ref a :: st)) rfl rfl (hb hby hd) _ h1, h2⟩
/-! objects, calls -/
theorem Walk.new (C : Walk W l Z a0 tb own code ml rt nm R Q) (pc' : Nat) {idx sz : Nat} {D : String} (hd : decode code pc = .ok (.new idx, 3)) (hp : pc' = pc + 3) (w : Jvm.Cond.classLink own idx D ∈ tb) (wi : Jvm.Cond.instantiable D sz ∈ tb) (wz : Jvm.Cond.initialized D ∈ tb) (hc : k + 1 ≤ R.cells) (hl : n + sz ≤ R.slots)
    (K : ∀ h', Ext h h' → Exa Z h' h.size D → (∀ {O f d : String} {ty : FieldType}, Laid Z a0 D O f d → parseFieldDescriptor d = some ty → Fld Z h' h.size O f d (defaultValue ty)) → W h' (k + 1) (n + sz) pc' Ls (.ref h.size :: st)) : W h k n pc Ls st := by
  obtain ⟨p, e, s, m, args, below, meth, c, rfl, hx, hby, hml, hown, hrt', hlk, hZ, hnm, hw⟩ := C
  intro hE T locs X eT N
  subst hp
  obtain ⟨T', h', X', e', E', A', D', -, S⟩ := newO X hx hZ hown (hw _ w) (hw _ wi) (hw _ wz) eT (g := mkF m pc Ls st) rfl (hb hby hd) hc hl
  obtain ⟨u, o, h1, h2⟩ := K h' E' A' D' (Old.ext (n0 := Z.heap.size) ⟨rfl, hE⟩ E').2 T' _ X' e' N
  exact ⟨u, o, S _ h1, h2⟩
theorem Walk.initObj (C : Walk W l Z a0 tb own code ml rt nm R Q) (pc' : Nat) {idx : Nat} {a : Addr} (wd : Nat) (hd : decode code pc = .ok (.invokespecial idx, 3)) (hp : pc' = pc + 3) (w1 : Jvm.Cond.methodLink own idx Lib.objectInit ∈ tb) (w2 : Jvm.Cond.instanceMethod Lib.objectInit ∈ tb) (w3 : Jvm.Cond.code Lib.objectInit ⟨#[0xb1]⟩ 1 none ∈ tb) (hls : Ls.size = ml) (hf : 1 ≤ R.frames) (hwd : (st.map fun v => v.category).sum ≤ wd) (hl : wd + 12 ≤ R.locals)
    (K : W h k n pc' Ls st) : W h k n pc Ls (.ref a :: st) := by
  obtain ⟨p, e, s, m, args, below, meth, c, rfl, hx, hby, hml, hown, hrt', hlk, hZ, hnm, hw⟩ := C
  intro hE T locs X eT N
  subst hp
  obtain ⟨T', X', e', S⟩ := initO X hx hZ hown (hw _ w1) (hw _ w2) (hw _ w3) eT (g := mkF m pc Ls (.ref a :: st)) rfl (by show Ls.size = _; rw [hls, hml]) rfl (hb hby hd) hf (W := wd) (by show 2 * 0 + _ ≤ _; omega) hl
  obtain ⟨u, o, h1, h2⟩ := K hE T' _ X' e' N
  exact ⟨u, o, S _ h1, h2⟩
theorem Walk.checkcast (C : Walk W l Z a0 tb own code ml rt nm R Q) (pc' : Nat) {idx : Nat} {D : String} {a : Addr} (hd : decode code pc = .ok (.checkcast idx, 3)) (hp : pc' = pc + 3) (w : Jvm.Cond.classLink own idx D ∈ tb) (I : Ins Z h a D true) (K : W h k n pc' Ls (.ref a :: st)) : W h k n pc Ls (.ref a :: st) := by
  obtain ⟨p, e, s, m, args, below, meth, c, rfl, hx, hby, hml, hown, hrt', hlk, hZ, hnm, hw⟩ := C
  intro hE T locs X eT N
  subst hp
  obtain ⟨T', X', e', S⟩ := castY X hx hZ hown (hw _ w) eT I (g := mkF m pc Ls (.ref a :: st)) rfl rfl (hb hby hd)
  obtain ⟨u, o, h1, h2⟩ := K hE T' _ X' e' N
  exact ⟨u, o, S _ h1, h2⟩
theorem Walk.callS (C : Walk W l Z a0 tb own code ml rt nm R Q) (pc' : Nat) {idx : Nat} {y : MethodName} {yc : ByteArray} {ym : Nat} {yr : Option FieldType} {rm : Room} {as : List Value} {rest : List Value} {yQ : Option Value → Heap → Prop} {ps : List FieldType} {r : Option FieldType} (wd : Nat) (hd : decode code pc = .ok (.invokestatic idx, 3)) (hp : pc' = pc + 3) (w1 : Jvm.Cond.methodLink own idx y ∈ tb) (w2 : Jvm.Cond.static y ∈ tb) (w3 : Jvm.Cond.initialized y.cls ∈ tb) (w4 : Jvm.Cond.code y yc ym yr ∈ tb) (hy : y.cls ≠ "java/lang/invoke/MethodHandle" ∧ y.cls ≠ "java/lang/invoke/VarHandle") (con : Con l Z y yc ym yr rm as.toArray h yQ) (pd : parseMethodDescriptor y.desc = some ⟨ps, r⟩) (hlen : as.length = ps.length) (hls : Ls.size = ml) (hwd : (rest.map fun v => v.category).sum ≤ wd) (hf : rm.frames + 1 ≤ R.frames) (hl : wd + (ym + 11) + rm.locals ≤ R.locals) (hc : k + rm.cells ≤ R.cells) (hs : n + rm.slots ≤ R.slots) (hst : st = as.reverse ++ rest)
    (K : ∀ v h', yQ v h' → W h' (k + rm.cells) (n + rm.slots) pc' Ls (v.toList ++ rest)) : W h k n pc Ls st := by
  obtain ⟨p, e, s, m, args, below, meth, c, rfl, hx, hby, hml, hown, hrt', hlk, hZ, hnm, hw⟩ := C
  intro hE T locs X eT N
  subst hp
  obtain ⟨v, vm₁, ⟨T', L', k', n'⟩, -, X', P, S⟩ := Jvm.LawKit.callS X hx (y := y) hown (mvT hZ (hw _ w1)) (mvT hZ (hw _ w2)) (mvT hZ (hw _ w3)) (mvT hZ (hw _ w4)) hy (backOf (Q := fun v h L => yQ v h ∧ Ext Z.heap h ∧ Fr Z.heap.size L) (W := wd) (con hE []) hZ (hw _ w4) (hw _ w3) hf hl) (g := mkF m pc Ls st) rfl (by show Ls.size = _; rw [hls, hml]) (argsL := as) (rest := rest) (lenOf pd hlen) hst (by show 2 * 0 + _ ≤ _; omega) (hb hby hd) (fun _ _ => ⟨rfl, eT, hc, hs⟩)
  obtain ⟨Lc, ⟨hq, hE', hN⟩, l', y', z'⟩ := P
  dsimp only [Pt.U, Pt.locs, Pt.cells, Pt.slots] at X' l' y' z' S hq hE'
  subst l' y' z'
  obtain ⟨u, o, h1, h2⟩ := K v T'.heap hq hE' T' _ X' rfl (Fr.app N hN)
  exact ⟨u, o, S _ h1, h2⟩
theorem Walk.callV (C : Walk W l Z a0 tb own code ml rt nm R Q) (pc' : Nat) {idx : Nat} {a : Addr} {D : String} {x : MethodName} {y : MethodName} {yc : ByteArray} {ym : Nat} {yr : Option FieldType} {rm : Room} {as : List Value} {rest : List Value} {yQ : Option Value → Heap → Prop} {ps : List FieldType} {r : Option FieldType} (wd : Nat) (hd : decode code pc = .ok (.invokevirtual idx, 3)) (hp : pc' = pc + 3) (w1 : Jvm.Cond.methodLink own idx x ∈ tb) (w2 : Jvm.Cond.declares x ∈ tb) (w5 : Jvm.Cond.selects D x y ∈ tb) (nf : ∀ args s, (∀ d ∈ tb, d.before a0 Z = true) → Z.Warmed39 s.vm → (Jvm.Cond.selects D x y).before args s = true → NotFace s x) (w6 : Jvm.Cond.instanceMethod y ∈ tb) (w3 : Jvm.Cond.initialized y.cls ∈ tb) (w4 : Jvm.Cond.code y yc ym yr ∈ tb) (hy : x.cls ≠ "java/lang/invoke/MethodHandle" ∧ x.cls ≠ "java/lang/invoke/VarHandle") (E : Exa Z h a D) (con : Con l Z y yc ym yr rm (.ref a :: as).toArray h yQ) (pd : parseMethodDescriptor x.desc = some ⟨ps, r⟩) (hlen : as.length = ps.length) (hls : Ls.size = ml) (hwd : (rest.map fun v => v.category).sum ≤ wd) (hf : rm.frames + 1 ≤ R.frames) (hl : wd + (ym + 11) + rm.locals ≤ R.locals) (hc : k + rm.cells ≤ R.cells) (hs : n + rm.slots ≤ R.slots) (hst : st = as.reverse ++ .ref a :: rest)
    (K : ∀ v h', yQ v h' → W h' (k + rm.cells) (n + rm.slots) pc' Ls (v.toList ++ rest)) : W h k n pc Ls st := by
  obtain ⟨p, e, s, m, args, below, meth, c, rfl, hx, hby, hml, hown, hrt', hlk, hZ, hnm, hw⟩ := C
  intro hE T locs X eT N
  subst hp
  obtain ⟨cq, kq, q1, q2, q3⟩ := isOf (T := T) hZ eT E
  obtain ⟨v, vm₁, ⟨T', L', k', n'⟩, -, X', P, S⟩ := X.virtualBack hx (y := x) (z := y) hown (mvT hZ (hw _ w1)) (mvT hZ (hw _ w2)) (nf args s hw hZ (mvT hZ (hw _ w5))) (mvT hZ (hw _ w5)) (mvT hZ (hw _ w6)) hy (backOf (Q := fun v h L => yQ v h ∧ Ext Z.heap h ∧ Fr Z.heap.size L) (W := wd) (con hE []) hZ (hw _ w4) (hw _ w3) hf hl) q1 q3 (g := mkF m pc Ls st) rfl (by show Ls.size = _; rw [hls, hml]) (Steps.refl _) (argsL := as) (rest := rest) (lenOf pd hlen) hst (by show 2 * 0 + _ ≤ _; omega) (hb hby hd) (fun _ _ => ⟨rfl, eT, hc, hs⟩)
  obtain ⟨Lc, ⟨hq, hE', hN⟩, l', y', z'⟩ := P
  dsimp only [Pt.U, Pt.locs, Pt.cells, Pt.slots] at X' l' y' z' S hq hE'
  subst l' y' z'
  obtain ⟨u, o, h1, h2⟩ := K v T'.heap hq hE' T' _ X' rfl (Fr.app N hN)
  exact ⟨u, o, S.trans h1, h2⟩
theorem nfSelf {x : MethodName} {D : String} : ∀ args s, (∀ d ∈ tb, d.before a0 Z = true) → Z.Warmed39 s.vm → (Jvm.Cond.selects D x x).before args s = true → NotFace s x := fun _ _ _ _ q => notFace_of_selects q
theorem Walk.callI (C : Walk W l Z a0 tb own code ml rt nm R Q) (pc' : Nat) {idx : Nat} {a : Addr} {y : MethodName} {yc : ByteArray} {ym : Nat} {yr : Option FieldType} {rm : Room} {as : List Value} {rest : List Value} {yQ : Option Value → Heap → Prop} {ps : List FieldType} {r : Option FieldType} (wd : Nat) (hd : decode code pc = .ok (.invokespecial idx, 3)) (hp : pc' = pc + 3) (hy1 : y.name = "<init>") (hyr : yr = none) (w1 : Jvm.Cond.methodLink own idx y ∈ tb) (w6 : Jvm.Cond.instanceMethod y ∈ tb) (w3 : Jvm.Cond.initialized y.cls ∈ tb) (w4 : Jvm.Cond.code y yc ym yr ∈ tb) (hy : y.cls ≠ "java/lang/invoke/MethodHandle" ∧ y.cls ≠ "java/lang/invoke/VarHandle") (con : Con l Z y yc ym yr rm (.ref a :: as).toArray h yQ) (pd : parseMethodDescriptor y.desc = some ⟨ps, r⟩) (hlen : as.length = ps.length) (hls : Ls.size = ml) (hwd : (rest.map fun v => v.category).sum ≤ wd) (hf : rm.frames + 1 ≤ R.frames) (hl : wd + (ym + 11) + rm.locals ≤ R.locals) (hc : k + rm.cells ≤ R.cells) (hs : n + rm.slots ≤ R.slots) (hst : st = as.reverse ++ .ref a :: rest)
    (K : ∀ v h', yQ v h' → W h' (k + rm.cells) (n + rm.slots) pc' Ls (v.toList ++ rest)) : W h k n pc Ls st := by
  obtain ⟨p, e, s, m, args, below, meth, c, rfl, hx, hby, hml, hown, hrt', hlk, hZ, hnm, hw⟩ := C
  intro hE T locs X eT N
  subst hp
  subst hyr
  obtain ⟨v, vm₁, ⟨T', L', k', n'⟩, -, X', P, S⟩ := X.specialBack hx (y := y) hy1 hown (mvT hZ (hw _ w1)) (mvT hZ (hw _ w6)) (mvT hZ (hw _ w4)) hy (backOf (Q := fun v h L => yQ v h ∧ Ext Z.heap h ∧ Fr Z.heap.size L) (W := wd) (con hE []) hZ (hw _ w4) (hw _ w3) hf hl) (g := mkF m pc Ls st) rfl (by show Ls.size = _; rw [hls, hml]) (Steps.refl _) (a := a) (argsL := as) (rest := rest) (lenOf pd hlen) hst (by show 2 * 0 + _ ≤ _; omega) (hb hby hd) (fun _ _ => ⟨rfl, eT, hc, hs⟩)
  obtain ⟨Lc, ⟨hq, hE', hN⟩, l', y', z'⟩ := P
  dsimp only [Pt.U, Pt.locs, Pt.cells, Pt.slots] at X' l' y' z' S hq hE'
  subst l' y' z'
  obtain ⟨u, o, h1, h2⟩ := K v T'.heap hq hE' T' _ X' rfl (Fr.app N hN)
  exact ⟨u, o, S.trans h1, h2⟩
theorem Walk.callP (C : Walk W l Z a0 tb own code ml rt nm R Q) (pc' : Nat) {idx : Nat} {a : Addr} {D : String} {y : MethodName} {yc : ByteArray} {ym : Nat} {yr : Option FieldType} {rm : Room} {as : List Value} {rest : List Value} {yQ : Option Value → Heap → Prop} {ps : List FieldType} {r : Option FieldType} (wd : Nat) (hd : decode code pc = .ok (.invokevirtual idx, 3)) (hp : pc' = pc + 3) (w1 : Jvm.Cond.methodLink own idx y ∈ tb) (w5 : Jvm.Cond.selects y.cls y y ∈ tb) (w7 : Jvm.Cond.privateMethod y ∈ tb) (w6 : Jvm.Cond.instanceMethod y ∈ tb) (w3 : Jvm.Cond.initialized y.cls ∈ tb) (w4 : Jvm.Cond.code y yc ym yr ∈ tb) (hy : y.cls ≠ "java/lang/invoke/MethodHandle" ∧ y.cls ≠ "java/lang/invoke/VarHandle") (E : Exa Z h a D) (con : Con l Z y yc ym yr rm (.ref a :: as).toArray h yQ) (pd : parseMethodDescriptor y.desc = some ⟨ps, r⟩) (hlen : as.length = ps.length) (hls : Ls.size = ml) (hwd : (rest.map fun v => v.category).sum ≤ wd) (hf : rm.frames + 1 ≤ R.frames) (hl : wd + (ym + 11) + rm.locals ≤ R.locals) (hc : k + rm.cells ≤ R.cells) (hs : n + rm.slots ≤ R.slots) (hst : st = as.reverse ++ .ref a :: rest)
    (K : ∀ v h', yQ v h' → W h' (k + rm.cells) (n + rm.slots) pc' Ls (v.toList ++ rest)) : W h k n pc Ls st := by
  obtain ⟨p, e, s, m, args, below, meth, c, rfl, hx, hby, hml, hown, hrt', hlk, hZ, hnm, hw⟩ := C
  intro hE T locs X eT N
  subst hp
  obtain ⟨cell, hcl, hob⟩ := E.cell
  obtain ⟨v, vm₁, ⟨T', L', k', n'⟩, -, X', P, S⟩ := X.privateBack hx (y := y) hown (mvT hZ (hw _ w1)) (mvT hZ (hw _ w6)) (mvT hZ (hw _ w5)) (Cond.privateMethod_at (mvP (args := args) hZ (hw _ w7))) (mvT hZ (hw _ w4)) hy (backOf (Q := fun v h L => yQ v h ∧ Ext Z.heap h ∧ Fr Z.heap.size L) (W := wd) (con hE []) hZ (hw _ w4) (hw _ w3) hf hl) (g := mkF m pc Ls st) rfl (by show Ls.size = _; rw [hls, hml]) (Steps.refl _) (a := a) (by rw [eT]; exact hcl) hob (argsL := as) (rest := rest) (lenOf pd hlen) hst (by show 2 * 0 + _ ≤ _; omega) (hb hby hd) (fun _ _ => ⟨rfl, eT, hc, hs⟩)
  obtain ⟨Lc, ⟨hq, hE', hN⟩, l', y', z'⟩ := P
  dsimp only [Pt.U, Pt.locs, Pt.cells, Pt.slots] at X' l' y' z' S hq hE'
  subst l' y' z'
  obtain ⟨u, o, h1, h2⟩ := K v T'.heap hq hE' T' _ X' rfl (Fr.app N hN)
  exact ⟨u, o, S.trans h1, h2⟩
theorem Walk.callF (C : Walk W l Z a0 tb own code ml rt nm R Q) (pc' : Nat) {idx cnt : Nat} {a : Addr} {D : String} {x : MethodName} {y : MethodName} {yc : ByteArray} {ym : Nat} {yr : Option FieldType} {rm : Room} {as : List Value} {rest : List Value} {yQ : Option Value → Heap → Prop} {ps : List FieldType} {r : Option FieldType} (wd : Nat) (hd : decode code pc = .ok (.invokeinterface idx cnt, 5)) (hp : pc' = pc + 5) (w1 : Jvm.Cond.methodLink own idx x ∈ tb) (w2 : Jvm.Cond.declares x ∈ tb) (w7 : Jvm.Cond.interfaceMethod x.cls x.cls x.name x.desc ∈ tb) (w5 : Jvm.Cond.selects D x y ∈ tb) (w6 : Jvm.Cond.instanceMethod y ∈ tb) (w8 : Jvm.Cond.publicMethod y ∈ tb) (w9 : Jvm.Cond.unhidden D x.name x.desc ∈ tb) (w10 : Jvm.Cond.castable D x.cls ∈ tb) (hI : ((Jvm.Cond.interfaceMethod x.cls x.cls x.name x.desc).onTables && (Jvm.Cond.interfaceMethod x.cls x.cls x.name x.desc).keepsFace) = true) (w3 : Jvm.Cond.initialized y.cls ∈ tb) (w4 : Jvm.Cond.code y yc ym yr ∈ tb) (hy : x.cls ≠ "java/lang/invoke/MethodHandle" ∧ x.cls ≠ "java/lang/invoke/VarHandle") (E : Exa Z h a D) (con : Con l Z y yc ym yr rm (.ref a :: as).toArray h yQ) (pd : parseMethodDescriptor x.desc = some ⟨ps, r⟩) (hlen : as.length = ps.length) (hls : Ls.size = ml) (hwd : (rest.map fun v => v.category).sum ≤ wd) (hf : rm.frames + 1 ≤ R.frames) (hl : wd + (ym + 11) + rm.locals ≤ R.locals) (hc : k + rm.cells ≤ R.cells) (hs : n + rm.slots ≤ R.slots) (hst : st = as.reverse ++ .ref a :: rest)
    (K : ∀ v h', yQ v h' → W h' (k + rm.cells) (n + rm.slots) pc' Ls (v.toList ++ rest)) : W h k n pc Ls st := by
  obtain ⟨p, e, s, m, args, below, meth, c, rfl, hx, hby, hml, hown, hrt', hlk, hZ, hnm, hw⟩ := C
  intro hE T locs X eT N
  subst hp
  obtain ⟨cq, kq, q1, q2, q3⟩ := isOf (T := T) hZ eT E
  obtain ⟨v, vm₁, ⟨T', L', k', n'⟩, -, X', P, S⟩ := X.interfaceBack hx (xi := x) (y := y) hown (mvT hZ (hw _ w1)) (mvT hZ (hw _ w2)) (mvT hZ (hw _ w7) hI) (mvT hZ (hw _ w5)) (mvT hZ (hw _ w6)) (mvT hZ (hw _ w8)) (mvT hZ (hw _ w9)) (mvT hZ (hw _ w10)) hy (backOf (Q := fun v h L => yQ v h ∧ Ext Z.heap h ∧ Fr Z.heap.size L) (W := wd) (con hE []) hZ (hw _ w4) (hw _ w3) hf hl) q1 q2 q3 (g := mkF m pc Ls st) rfl (by show Ls.size = _; rw [hls, hml]) (Steps.refl _) (argsL := as) (rest := rest) (lenOf pd hlen) hst (by show 2 * 0 + _ ≤ _; omega) (hb hby hd) (fun _ _ => ⟨rfl, eT, hc, hs⟩)
  obtain ⟨Lc, ⟨hq, hE', hN⟩, l', y', z'⟩ := P
  dsimp only [Pt.U, Pt.locs, Pt.cells, Pt.slots] at X' l' y' z' S hq hE'
  subst l' y' z'
  obtain ⟨u, o, h1, h2⟩ := K v T'.heap hq hE' T' _ X' rfl (Fr.app N hN)
  exact ⟨u, o, S.trans h1, h2⟩
theorem Walk.instanceofT (C : Walk W l Z a0 tb own code ml rt nm R Q) (pc' : Nat) {idx : Nat} {D : String} {a : Addr} (hd : decode code pc = .ok (.instanceof idx, 3)) (hp : pc' = pc + 3) (w : Jvm.Cond.classLink own idx D ∈ tb) (I : Ins Z h a D true) (K : W h k n pc' Ls (.int 1 :: st)) : W h k n pc Ls (.ref a :: st) := by
  obtain ⟨p, e, s, m, args, below, meth, c, rfl, hx, hby, hml, hown, hrt', hlk, hZ, hnm, hw⟩ := C
  intro hE T locs X eT N
  subst hp
  obtain ⟨T', X', e', S⟩ := instY X hx hZ hown (hw _ w) eT I (g := mkF m pc Ls (.ref a :: st)) rfl rfl (hb hby hd)
  obtain ⟨u, o, h1, h2⟩ := K hE T' _ X' e' N
  exact ⟨u, o, S _ h1, h2⟩
theorem Ro.al {a : Addr} {D : String} {cA : ClassId} {vs : List Value} (A : Ro Z h a D cA vs) : Al Z h a (.object D) vs := by obtain ⟨c, A1, -, A3⟩ := A; exact ⟨c, A1, A3⟩
theorem Walk.aaloadA (C : Walk W l Z a0 tb own code ml rt nm R Q) (pc' : Nat) {a : Addr} {ty : FieldType} {vs : List Value} {j : Int32} (i : Nat) (v : Value) (hd : decode code pc = .ok (.aaload, 1)) (hp : pc' = pc + 1) (hty : ty.isReference = true) (A : Al Z h a ty vs) (hn : ¬ j < 0) (hi : j.toNatClampNeg = i) (hv : vs[i]? = some v)
    (K : W h k n pc' Ls (v :: st)) : W h k n pc Ls (.int j :: .ref a :: st) := by
  obtain ⟨p, e, s, m, args, below, meth, c, rfl, hx, hby, hml, hown, hrt', hlk, hZ, hnm, hw⟩ := C
  intro hE T locs X eT N
  subst hp
  obtain ⟨cl, A1, A3⟩ := A
  have hl : i < vs.length := (List.getElem?_eq_some_iff.mp hv).1
  have hj : ¬ (j < 0 ∨ cl.slots.size ≤ j.toNatClampNeg) := by rw [list_sz A3, hi]; exact fun q => q.elim hn (fun q => absurd hl (Nat.not_lt.mpr q))
  obtain ⟨u, o, h1, h2⟩ := K hE T _ X eT N
  exact ⟨u, o, X.aaload hx (by rw [eT]; exact A1.1) (State.isArrayOf_alike hZ.alike A1.2.1) hty A1.2.2 hj (by rw [hi, list_at A3]; exact hv) (g := mkF m pc Ls (.int j :: .ref a :: st)) rfl rfl (hb hby hd) _ h1, h2⟩
theorem Walk.clone (C : Walk W l Z a0 tb own code ml rt nm R Q) (pc' : Nat) {idx : Nat} {a : Addr} {ad : String} {cl : Cell} {ty : FieldType} (cap wd : Nat) (hd : decode code pc = .ok (.invokevirtual idx, 3)) (hp : pc' = pc + 3) (w1 : Jvm.Cond.methodLink own idx ⟨ad, "clone", "()Ljava/lang/Object;"⟩ ∈ tb) (w2 : Jvm.Cond.sameMethod ad "java/lang/Object" "clone" "()Ljava/lang/Object;" ∈ tb) (w3 : Jvm.Cond.native ⟨"java/lang/Object", "clone", "()Ljava/lang/Object;"⟩ ∈ tb) (w4 : Jvm.Cond.instanceMethod ⟨"java/lang/Object", "clone", "()Ljava/lang/Object;"⟩ ∈ tb) (w5 : Jvm.Cond.selects ad ⟨ad, "clone", "()Ljava/lang/Object;"⟩ ⟨"java/lang/Object", "clone", "()Ljava/lang/Object;"⟩ ∈ tb) (w6 : Jvm.Cond.castable ad "java/lang/Cloneable" ∈ tb)
    (A : Arr Z h a cl ty) (E : Exa Z h a ad) (F : FitC Z cl) (hls : Ls.size = ml) (hf : 1 ≤ R.frames) (hwd : (st.map fun v => v.category).sum ≤ wd) (hl : wd + 14 ≤ R.locals) (hcap : cl.slots.size ≤ cap) (hc : k + 1 ≤ R.cells) (hs : n + cap ≤ R.slots)
    (K : ∀ h', Ext h h' → Al Z h' h.size ty cl.slots.toList → Exa Z h' h.size ad → W h' (k + 1) (n + cap) pc' Ls (.ref h.size :: st)) : W h k n pc Ls (.ref a :: st) := by
  obtain ⟨p, e, s, m, args, below, meth, c, rfl, hx, hby, hml, hown, hrt', hlk, hZ, hnm, hw⟩ := C
  intro hE T locs X eT N
  subst hp
  obtain ⟨T', h', X', e', E', A', X2, S⟩ := cloneA X hx hZ hown (hw _ w1) (hw _ w2) (hw _ w3) (hw _ w4) (hw _ w5) (hw _ w6) eT A E F (g := mkF m pc Ls (.ref a :: st)) rfl (by show Ls.size = _; rw [hls, hml]) rfl (hb hby hd) hf (W := wd) (cap := cap) (by show 2 * 0 + _ ≤ _; omega) hl hcap hc hs
  obtain ⟨u, o, h1, h2⟩ := K h' E' ⟨_, A', rfl⟩ X2 (Old.ext (n0 := Z.heap.size) ⟨rfl, hE⟩ E').2 T' _ X' e' N
  exact ⟨u, o, S _ h1, h2⟩
end Rules
end Jvm.Own

namespace Jvm.Pilot.@@N@@
open Jvm Jvm.ClassFile Sem Op Lib Jvm.Free Jvm.Stand Jvm.LawKit Jvm.RoadKit Bundle Jvm.Own Jvm.Pilot.@@N@@.Jvm.D
theorem tw (i : Nat) {d : Jvm.Cond} (h : tables_1[i]? = some d := by rfl) : d ∈ tables_1 := List.mem_of_getElem? h
theorem d1_0 : decode prog_9_method_1_code 0 = .ok (.aload_n 0, 1) := by decide +kernel
theorem d1_1 : decode prog_9_method_1_code 1 = .ok (.invokespecial 1, 3) := by decide +kernel
theorem d1_4 : decode prog_9_method_1_code 4 = .ok (.aload_n 0, 1) := by decide +kernel
theorem d1_5 : decode prog_9_method_1_code 5 = .ok (.new 7, 3) := by decide +kernel
theorem d1_8 : decode prog_9_method_1_code 8 = .ok (.dup, 1) := by decide +kernel
theorem d1_9 : decode prog_9_method_1_code 9 = .ok (.invokespecial 9, 3) := by decide +kernel
theorem d1_12 : decode prog_9_method_1_code 12 = .ok (.putfield 10, 3) := by decide +kernel
theorem d1_15 : decode prog_9_method_1_code 15 = .ok (.aload_n 0, 1) := by decide +kernel
theorem d1_16 : decode prog_9_method_1_code 16 = .ok (.iload_n 1, 1) := by decide +kernel
theorem d1_17 : decode prog_9_method_1_code 17 = .ok (.putfield 16, 3) := by decide +kernel
theorem d1_20 : decode prog_9_method_1_code 20 = .ok (.aload_n 0, 1) := by decide +kernel
theorem d1_21 : decode prog_9_method_1_code 21 = .ok (.lload_n 2, 1) := by decide +kernel
theorem d1_22 : decode prog_9_method_1_code 22 = .ok (.putfield 20, 3) := by decide +kernel
theorem d1_25 : decode prog_9_method_1_code 25 = .ok (.return_, 1) := by decide +kernel
theorem pn1 : plainFor (⟨"com/example/reserved_delivery/reserveddelivery/broker/Batch", "<init>", "(IJ)V"⟩ : MethodName) = true := by first | exact plainFor_of_name (by first | (simp [plainName, overriddenIn]; done) | decide +kernel) | decide +kernel
theorem pd1 : parseMethodDescriptor "(IJ)V" = some ⟨[.int, .long], none⟩ := by decide +kernel
theorem d3_0 : decode jdk_38_method_2_code 0 = .ok (.aload_n 0, 1) := by decide +kernel
theorem d3_1 : decode jdk_38_method_2_code 1 = .ok (.invokespecial 1, 3) := by decide +kernel
theorem d3_4 : decode jdk_38_method_2_code 4 = .ok (.aload_n 0, 1) := by decide +kernel
theorem d3_5 : decode jdk_38_method_2_code 5 = .ok (.getstatic 39, 3) := by decide +kernel
theorem d3_8 : decode jdk_38_method_2_code 8 = .ok (.putfield 9, 3) := by decide +kernel
theorem d3_11 : decode jdk_38_method_2_code 11 = .ok (.return_, 1) := by decide +kernel
theorem pn3 : plainFor (⟨"java/util/ArrayList", "<init>", "()V"⟩ : MethodName) = true := by first | exact plainFor_of_name (by first | (simp [plainName, overriddenIn]; done) | decide +kernel) | decide +kernel
theorem pd3 : parseMethodDescriptor "()V" = some ⟨[], none⟩ := by decide +kernel
theorem d4_0 : decode jdk_39_method_1_code 0 = .ok (.aload_n 0, 1) := by decide +kernel
theorem d4_1 : decode jdk_39_method_1_code 1 = .ok (.invokespecial 1, 3) := by decide +kernel
theorem d4_4 : decode jdk_39_method_1_code 4 = .ok (.aload_n 0, 1) := by decide +kernel
theorem d4_5 : decode jdk_39_method_1_code 5 = .ok (.iconst 0, 1) := by decide +kernel
theorem d4_6 : decode jdk_39_method_1_code 6 = .ok (.putfield 7, 3) := by decide +kernel
theorem d4_9 : decode jdk_39_method_1_code 9 = .ok (.return_, 1) := by decide +kernel
theorem pn4 : plainFor (⟨"java/util/AbstractList", "<init>", "()V"⟩ : MethodName) = true := by first | exact plainFor_of_name (by first | (simp [plainName, overriddenIn]; done) | decide +kernel) | decide +kernel
theorem pd4 : parseMethodDescriptor "()V" = some ⟨[], none⟩ := by decide +kernel
theorem d5_0 : decode jdk_22_method_1_code 0 = .ok (.aload_n 0, 1) := by decide +kernel
theorem d5_1 : decode jdk_22_method_1_code 1 = .ok (.invokespecial 1, 3) := by decide +kernel
theorem d5_4 : decode jdk_22_method_1_code 4 = .ok (.return_, 1) := by decide +kernel
theorem pn5 : plainFor (⟨"java/util/AbstractCollection", "<init>", "()V"⟩ : MethodName) = true := by first | exact plainFor_of_name (by first | (simp [plainName, overriddenIn]; done) | decide +kernel) | decide +kernel
theorem pd5 : parseMethodDescriptor "()V" = some ⟨[], none⟩ := by decide +kernel
theorem d6_0 : decode prog_9_method_2_code 0 = .ok (.aload_n 0, 1) := by decide +kernel
theorem d6_1 : decode prog_9_method_2_code 1 = .ok (.aload_n 0, 1) := by decide +kernel
theorem d6_2 : decode prog_9_method_2_code 2 = .ok (.getfield 24, 3) := by decide +kernel
theorem d6_5 : decode prog_9_method_2_code 5 = .ok (.ifCond .ne 46, 3) := by decide +kernel
theorem d6_8 : decode prog_9_method_2_code 8 = .ok (.aload_n 0, 1) := by decide +kernel
theorem d6_9 : decode prog_9_method_2_code 9 = .ok (.getfield 10, 3) := by decide +kernel
theorem d6_12 : decode prog_9_method_2_code 12 = .ok (.invokeinterface 28 1, 5) := by decide +kernel
theorem d6_17 : decode prog_9_method_2_code 17 = .ok (.aload_n 0, 1) := by decide +kernel
theorem d6_18 : decode prog_9_method_2_code 18 = .ok (.getfield 16, 3) := by decide +kernel
theorem d6_21 : decode prog_9_method_2_code 21 = .ok (.if_icmp .eq 30, 3) := by decide +kernel
theorem d6_24 : decode prog_9_method_2_code 24 = .ok (.aload_n 0, 1) := by decide +kernel
theorem d6_25 : decode prog_9_method_2_code 25 = .ok (.getfield 10, 3) := by decide +kernel
theorem d6_28 : decode prog_9_method_2_code 28 = .ok (.invokeinterface 34 1, 5) := by decide +kernel
theorem d6_33 : decode prog_9_method_2_code 33 = .ok (.ifCond .ne 22, 3) := by decide +kernel
theorem d6_36 : decode prog_9_method_2_code 36 = .ok (.aload_n 0, 1) := by decide +kernel
theorem d6_37 : decode prog_9_method_2_code 37 = .ok (.getfield 38, 3) := by decide +kernel
theorem d6_40 : decode prog_9_method_2_code 40 = .ok (.iload_n 1, 1) := by decide +kernel
theorem d6_41 : decode prog_9_method_2_code 41 = .ok (.i2l, 1) := by decide +kernel
theorem d6_42 : decode prog_9_method_2_code 42 = .ok (.ladd, 1) := by decide +kernel
theorem d6_43 : decode prog_9_method_2_code 43 = .ok (.aload_n 0, 1) := by decide +kernel
theorem d6_44 : decode prog_9_method_2_code 44 = .ok (.getfield 20, 3) := by decide +kernel
theorem d6_47 : decode prog_9_method_2_code 47 = .ok (.lcmp, 1) := by decide +kernel
theorem d6_48 : decode prog_9_method_2_code 48 = .ok (.ifCond .le 7, 3) := by decide +kernel
theorem d6_51 : decode prog_9_method_2_code 51 = .ok (.iconst 1, 1) := by decide +kernel
theorem d6_52 : decode prog_9_method_2_code 52 = .ok (.goto 4, 3) := by decide +kernel
theorem d6_55 : decode prog_9_method_2_code 55 = .ok (.iconst 0, 1) := by decide +kernel
theorem d6_56 : decode prog_9_method_2_code 56 = .ok (.putfield 24, 3) := by decide +kernel
theorem d6_59 : decode prog_9_method_2_code 59 = .ok (.aload_n 0, 1) := by decide +kernel
theorem d6_60 : decode prog_9_method_2_code 60 = .ok (.getfield 24, 3) := by decide +kernel
theorem d6_63 : decode prog_9_method_2_code 63 = .ok (.ifCond .ne 14, 3) := by decide +kernel
theorem d6_66 : decode prog_9_method_2_code 66 = .ok (.aload_n 0, 1) := by decide +kernel
theorem d6_67 : decode prog_9_method_2_code 67 = .ok (.dup, 1) := by decide +kernel
theorem d6_68 : decode prog_9_method_2_code 68 = .ok (.getfield 38, 3) := by decide +kernel
theorem d6_71 : decode prog_9_method_2_code 71 = .ok (.iload_n 1, 1) := by decide +kernel
theorem d6_72 : decode prog_9_method_2_code 72 = .ok (.i2l, 1) := by decide +kernel
theorem d6_73 : decode prog_9_method_2_code 73 = .ok (.ladd, 1) := by decide +kernel
theorem d6_74 : decode prog_9_method_2_code 74 = .ok (.putfield 38, 3) := by decide +kernel
theorem d6_77 : decode prog_9_method_2_code 77 = .ok (.aload_n 0, 1) := by decide +kernel
theorem d6_78 : decode prog_9_method_2_code 78 = .ok (.getfield 24, 3) := by decide +kernel
theorem d6_81 : decode prog_9_method_2_code 81 = .ok (.ifCond .ne 7, 3) := by decide +kernel
theorem d6_84 : decode prog_9_method_2_code 84 = .ok (.iconst 1, 1) := by decide +kernel
theorem d6_85 : decode prog_9_method_2_code 85 = .ok (.goto 4, 3) := by decide +kernel
theorem d6_88 : decode prog_9_method_2_code 88 = .ok (.iconst 0, 1) := by decide +kernel
theorem d6_89 : decode prog_9_method_2_code 89 = .ok (.ireturn, 1) := by decide +kernel
theorem pn6 : plainFor (⟨"com/example/reserved_delivery/reserveddelivery/broker/Batch", "accepts", "(I)Z"⟩ : MethodName) = true := by first | exact plainFor_of_name (by first | (simp [plainName, overriddenIn]; done) | decide +kernel) | decide +kernel
theorem pd6 : parseMethodDescriptor "(I)Z" = some ⟨[.int], some .boolean⟩ := by decide +kernel
theorem d7_0 : decode jdk_38_method_8_code 0 = .ok (.aload_n 0, 1) := by decide +kernel
theorem d7_1 : decode jdk_38_method_8_code 1 = .ok (.getfield 48, 3) := by decide +kernel
theorem d7_4 : decode jdk_38_method_8_code 4 = .ok (.ireturn, 1) := by decide +kernel
theorem pn7 : plainFor (⟨"java/util/ArrayList", "size", "()I"⟩ : MethodName) = true := by first | exact plainFor_of_name (by first | (simp [plainName, overriddenIn]; done) | decide +kernel) | decide +kernel
theorem pd7 : parseMethodDescriptor "()I" = some ⟨[], some .int⟩ := by decide +kernel
theorem d8_0 : decode prog_9_method_4_code 0 = .ok (.aload_n 0, 1) := by decide +kernel
theorem d8_1 : decode prog_9_method_4_code 1 = .ok (.getfield 24, 3) := by decide +kernel
theorem d8_4 : decode prog_9_method_4_code 4 = .ok (.ireturn, 1) := by decide +kernel
theorem pn8 : plainFor (⟨"com/example/reserved_delivery/reserveddelivery/broker/Batch", "closed", "()Z"⟩ : MethodName) = true := by first | exact plainFor_of_name (by first | (simp [plainName, overriddenIn]; done) | decide +kernel) | decide +kernel
theorem pd8 : parseMethodDescriptor "()Z" = some ⟨[], some .boolean⟩ := by decide +kernel
theorem d9_0 : decode jdk_38_method_9_code 0 = .ok (.aload_n 0, 1) := by decide +kernel
theorem d9_1 : decode jdk_38_method_9_code 1 = .ok (.getfield 48, 3) := by decide +kernel
theorem d9_4 : decode jdk_38_method_9_code 4 = .ok (.ifCond .ne 7, 3) := by decide +kernel
theorem d9_7 : decode jdk_38_method_9_code 7 = .ok (.iconst 1, 1) := by decide +kernel
theorem d9_8 : decode jdk_38_method_9_code 8 = .ok (.goto 4, 3) := by decide +kernel
theorem d9_11 : decode jdk_38_method_9_code 11 = .ok (.iconst 0, 1) := by decide +kernel
theorem d9_12 : decode jdk_38_method_9_code 12 = .ok (.ireturn, 1) := by decide +kernel
theorem pn9 : plainFor (⟨"java/util/ArrayList", "isEmpty", "()Z"⟩ : MethodName) = true := by first | exact plainFor_of_name (by first | (simp [plainName, overriddenIn]; done) | decide +kernel) | decide +kernel
theorem pd9 : parseMethodDescriptor "()Z" = some ⟨[], some .boolean⟩ := by decide +kernel
theorem d10_0 : decode jdk_33_method_22_code 0 = .ok (.iload_n 0, 1) := by decide +kernel
theorem d10_1 : decode jdk_33_method_22_code 1 = .ok (.bipush (-128), 2) := by decide +kernel
theorem d10_3 : decode jdk_33_method_22_code 3 = .ok (.if_icmp .lt 20, 3) := by decide +kernel
theorem d10_6 : decode jdk_33_method_22_code 6 = .ok (.iload_n 0, 1) := by decide +kernel
theorem d10_7 : decode jdk_33_method_22_code 7 = .ok (.getstatic 191, 3) := by decide +kernel
theorem d10_10 : decode jdk_33_method_22_code 10 = .ok (.if_icmp .gt 13, 3) := by decide +kernel
theorem d10_13 : decode jdk_33_method_22_code 13 = .ok (.getstatic 195, 3) := by decide +kernel
theorem d10_16 : decode jdk_33_method_22_code 16 = .ok (.iload_n 0, 1) := by decide +kernel
theorem d10_17 : decode jdk_33_method_22_code 17 = .ok (.sipush 128, 3) := by decide +kernel
theorem d10_20 : decode jdk_33_method_22_code 20 = .ok (.iadd, 1) := by decide +kernel
theorem d10_21 : decode jdk_33_method_22_code 21 = .ok (.aaload, 1) := by decide +kernel
theorem d10_22 : decode jdk_33_method_22_code 22 = .ok (.areturn, 1) := by decide +kernel
theorem d10_23 : decode jdk_33_method_22_code 23 = .ok (.new 1, 3) := by decide +kernel
theorem d10_26 : decode jdk_33_method_22_code 26 = .ok (.dup, 1) := by decide +kernel
theorem d10_27 : decode jdk_33_method_22_code 27 = .ok (.iload_n 0, 1) := by decide +kernel
theorem d10_28 : decode jdk_33_method_22_code 28 = .ok (.invokespecial 199, 3) := by decide +kernel
theorem d10_31 : decode jdk_33_method_22_code 31 = .ok (.areturn, 1) := by decide +kernel
theorem pn10 : plainFor (⟨"java/lang/Integer", "valueOf", "(I)Ljava/lang/Integer;"⟩ : MethodName) = true := by first | exact plainFor_of_name (by first | (simp [plainName, overriddenIn]; done) | decide +kernel) | decide +kernel
theorem pd10 : parseMethodDescriptor "(I)Ljava/lang/Integer;" = some ⟨[.int], some (.object "java/lang/Integer")⟩ := by decide +kernel
theorem d11_0 : decode prog_9_method_3_code 0 = .ok (.aload_n 0, 1) := by decide +kernel
theorem d11_1 : decode prog_9_method_3_code 1 = .ok (.getfield 10, 3) := by decide +kernel
theorem d11_4 : decode prog_9_method_3_code 4 = .ok (.aload_n 1, 1) := by decide +kernel
theorem d11_5 : decode prog_9_method_3_code 5 = .ok (.invokeinterface 41 2, 5) := by decide +kernel
theorem d11_10 : decode prog_9_method_3_code 10 = .ok (.pop, 1) := by decide +kernel
theorem d11_11 : decode prog_9_method_3_code 11 = .ok (.return_, 1) := by decide +kernel
theorem pn11 : plainFor (⟨"com/example/reserved_delivery/reserveddelivery/broker/Batch", "add", "(Ljava/lang/Object;)V"⟩ : MethodName) = true := by first | exact plainFor_of_name (by first | (simp [plainName, overriddenIn]; done) | decide +kernel) | decide +kernel
theorem pd11 : parseMethodDescriptor "(Ljava/lang/Object;)V" = some ⟨[(.object "java/lang/Object")], none⟩ := by decide +kernel
theorem d12_0 : decode jdk_38_method_25_code 0 = .ok (.aload_n 0, 1) := by decide +kernel
theorem d12_1 : decode jdk_38_method_25_code 1 = .ok (.dup, 1) := by decide +kernel
theorem d12_2 : decode jdk_38_method_25_code 2 = .ok (.getfield 63, 3) := by decide +kernel
theorem d12_5 : decode jdk_38_method_25_code 5 = .ok (.iconst 1, 1) := by decide +kernel
theorem d12_6 : decode jdk_38_method_25_code 6 = .ok (.iadd, 1) := by decide +kernel
theorem d12_7 : decode jdk_38_method_25_code 7 = .ok (.putfield 63, 3) := by decide +kernel
theorem d12_10 : decode jdk_38_method_25_code 10 = .ok (.aload_n 0, 1) := by decide +kernel
theorem d12_11 : decode jdk_38_method_25_code 11 = .ok (.aload_n 1, 1) := by decide +kernel
theorem d12_12 : decode jdk_38_method_25_code 12 = .ok (.aload_n 0, 1) := by decide +kernel
theorem d12_13 : decode jdk_38_method_25_code 13 = .ok (.getfield 9, 3) := by decide +kernel
theorem d12_16 : decode jdk_38_method_25_code 16 = .ok (.aload_n 0, 1) := by decide +kernel
theorem d12_17 : decode jdk_38_method_25_code 17 = .ok (.getfield 48, 3) := by decide +kernel
theorem d12_20 : decode jdk_38_method_25_code 20 = .ok (.invokevirtual 131, 3) := by decide +kernel
theorem d12_23 : decode jdk_38_method_25_code 23 = .ok (.iconst 1, 1) := by decide +kernel
theorem d12_24 : decode jdk_38_method_25_code 24 = .ok (.ireturn, 1) := by decide +kernel
theorem pn12 : plainFor (⟨"java/util/ArrayList", "add", "(Ljava/lang/Object;)Z"⟩ : MethodName) = true := by first | exact plainFor_of_name (by first | (simp [plainName, overriddenIn]; done) | decide +kernel) | decide +kernel
theorem pd12 : parseMethodDescriptor "(Ljava/lang/Object;)Z" = some ⟨[(.object "java/lang/Object")], some .boolean⟩ := by decide +kernel
theorem d13_0 : decode jdk_38_method_24_code 0 = .ok (.iload_n 3, 1) := by decide +kernel
theorem d13_1 : decode jdk_38_method_24_code 1 = .ok (.aload_n 2, 1) := by decide +kernel
theorem d13_2 : decode jdk_38_method_24_code 2 = .ok (.arraylength, 1) := by decide +kernel
theorem d13_3 : decode jdk_38_method_24_code 3 = .ok (.if_icmp .ne 8, 3) := by decide +kernel
theorem d13_6 : decode jdk_38_method_24_code 6 = .ok (.aload_n 0, 1) := by decide +kernel
theorem d13_7 : decode jdk_38_method_24_code 7 = .ok (.invokevirtual 129, 3) := by decide +kernel
theorem d13_10 : decode jdk_38_method_24_code 10 = .ok (.astore_n 2, 1) := by decide +kernel
theorem d13_11 : decode jdk_38_method_24_code 11 = .ok (.aload_n 2, 1) := by decide +kernel
theorem d13_12 : decode jdk_38_method_24_code 12 = .ok (.iload_n 3, 1) := by decide +kernel
theorem d13_13 : decode jdk_38_method_24_code 13 = .ok (.aload_n 1, 1) := by decide +kernel
theorem d13_14 : decode jdk_38_method_24_code 14 = .ok (.aastore, 1) := by decide +kernel
theorem d13_15 : decode jdk_38_method_24_code 15 = .ok (.aload_n 0, 1) := by decide +kernel
theorem d13_16 : decode jdk_38_method_24_code 16 = .ok (.iload_n 3, 1) := by decide +kernel
theorem d13_17 : decode jdk_38_method_24_code 17 = .ok (.iconst 1, 1) := by decide +kernel
theorem d13_18 : decode jdk_38_method_24_code 18 = .ok (.iadd, 1) := by decide +kernel
theorem d13_19 : decode jdk_38_method_24_code 19 = .ok (.putfield 48, 3) := by decide +kernel
theorem d13_22 : decode jdk_38_method_24_code 22 = .ok (.return_, 1) := by decide +kernel
theorem pn13 : plainFor (⟨"java/util/ArrayList", "add", "(Ljava/lang/Object;[Ljava/lang/Object;I)V"⟩ : MethodName) = true := by first | exact plainFor_of_name (by first | (simp [plainName, overriddenIn]; done) | decide +kernel) | decide +kernel
theorem pd13 : parseMethodDescriptor "(Ljava/lang/Object;[Ljava/lang/Object;I)V" = some ⟨[(.object "java/lang/Object"), (.array (.object "java/lang/Object")), .int], none⟩ := by decide +kernel
theorem d14_0 : decode jdk_38_method_7_code 0 = .ok (.aload_n 0, 1) := by decide +kernel
theorem d14_1 : decode jdk_38_method_7_code 1 = .ok (.aload_n 0, 1) := by decide +kernel
theorem d14_2 : decode jdk_38_method_7_code 2 = .ok (.getfield 48, 3) := by decide +kernel
theorem d14_5 : decode jdk_38_method_7_code 5 = .ok (.iconst 1, 1) := by decide +kernel
theorem d14_6 : decode jdk_38_method_7_code 6 = .ok (.iadd, 1) := by decide +kernel
theorem d14_7 : decode jdk_38_method_7_code 7 = .ok (.invokevirtual 69, 3) := by decide +kernel
theorem d14_10 : decode jdk_38_method_7_code 10 = .ok (.areturn, 1) := by decide +kernel
theorem pn14 : plainFor (⟨"java/util/ArrayList", "grow", "()[Ljava/lang/Object;"⟩ : MethodName) = true := by first | exact plainFor_of_name (by first | (simp [plainName, overriddenIn]; done) | decide +kernel) | decide +kernel
theorem pd14 : parseMethodDescriptor "()[Ljava/lang/Object;" = some ⟨[], some (.array (.object "java/lang/Object"))⟩ := by decide +kernel
theorem d15_0 : decode jdk_38_method_6_code 0 = .ok (.aload_n 0, 1) := by decide +kernel
theorem d15_1 : decode jdk_38_method_6_code 1 = .ok (.getfield 9, 3) := by decide +kernel
theorem d15_4 : decode jdk_38_method_6_code 4 = .ok (.arraylength, 1) := by decide +kernel
theorem d15_5 : decode jdk_38_method_6_code 5 = .ok (.istore_n 2, 1) := by decide +kernel
theorem d15_6 : decode jdk_38_method_6_code 6 = .ok (.iload_n 2, 1) := by decide +kernel
theorem d15_7 : decode jdk_38_method_6_code 7 = .ok (.ifCond .gt 13, 3) := by decide +kernel
theorem d15_10 : decode jdk_38_method_6_code 10 = .ok (.aload_n 0, 1) := by decide +kernel
theorem d15_11 : decode jdk_38_method_6_code 11 = .ok (.getfield 9, 3) := by decide +kernel
theorem d15_14 : decode jdk_38_method_6_code 14 = .ok (.getstatic 39, 3) := by decide +kernel
theorem d15_17 : decode jdk_38_method_6_code 17 = .ok (.if_acmp .eq 28, 3) := by decide +kernel
theorem d15_20 : decode jdk_38_method_6_code 20 = .ok (.iload_n 2, 1) := by decide +kernel
theorem d15_21 : decode jdk_38_method_6_code 21 = .ok (.iload_n 1, 1) := by decide +kernel
theorem d15_22 : decode jdk_38_method_6_code 22 = .ok (.iload_n 2, 1) := by decide +kernel
theorem d15_23 : decode jdk_38_method_6_code 23 = .ok (.isub, 1) := by decide +kernel
theorem d15_24 : decode jdk_38_method_6_code 24 = .ok (.iload_n 2, 1) := by decide +kernel
theorem d15_25 : decode jdk_38_method_6_code 25 = .ok (.iconst 1, 1) := by decide +kernel
theorem d15_26 : decode jdk_38_method_6_code 26 = .ok (.ishr, 1) := by decide +kernel
theorem d15_27 : decode jdk_38_method_6_code 27 = .ok (.invokestatic 73, 3) := by decide +kernel
theorem d15_30 : decode jdk_38_method_6_code 30 = .ok (.istore_n 3, 1) := by decide +kernel
theorem d15_31 : decode jdk_38_method_6_code 31 = .ok (.aload_n 0, 1) := by decide +kernel
theorem d15_32 : decode jdk_38_method_6_code 32 = .ok (.aload_n 0, 1) := by decide +kernel
theorem d15_33 : decode jdk_38_method_6_code 33 = .ok (.getfield 9, 3) := by decide +kernel
theorem d15_36 : decode jdk_38_method_6_code 36 = .ok (.iload_n 3, 1) := by decide +kernel
theorem d15_37 : decode jdk_38_method_6_code 37 = .ok (.invokestatic 66, 3) := by decide +kernel
theorem d15_40 : decode jdk_38_method_6_code 40 = .ok (.dup_x1, 1) := by decide +kernel
theorem d15_41 : decode jdk_38_method_6_code 41 = .ok (.putfield 9, 3) := by decide +kernel
theorem d15_44 : decode jdk_38_method_6_code 44 = .ok (.areturn, 1) := by decide +kernel
theorem d15_45 : decode jdk_38_method_6_code 45 = .ok (.aload_n 0, 1) := by decide +kernel
theorem d15_46 : decode jdk_38_method_6_code 46 = .ok (.bipush 10, 2) := by decide +kernel
theorem d15_48 : decode jdk_38_method_6_code 48 = .ok (.iload_n 1, 1) := by decide +kernel
theorem d15_49 : decode jdk_38_method_6_code 49 = .ok (.invokestatic 79, 3) := by decide +kernel
theorem d15_52 : decode jdk_38_method_6_code 52 = .ok (.anewarray 7, 3) := by decide +kernel
theorem d15_55 : decode jdk_38_method_6_code 55 = .ok (.dup_x1, 1) := by decide +kernel
theorem d15_56 : decode jdk_38_method_6_code 56 = .ok (.putfield 9, 3) := by decide +kernel
theorem d15_59 : decode jdk_38_method_6_code 59 = .ok (.areturn, 1) := by decide +kernel
theorem pn15 : plainFor (⟨"java/util/ArrayList", "grow", "(I)[Ljava/lang/Object;"⟩ : MethodName) = true := by first | exact plainFor_of_name (by first | (simp [plainName, overriddenIn]; done) | decide +kernel) | decide +kernel
theorem pd15 : parseMethodDescriptor "(I)[Ljava/lang/Object;" = some ⟨[.int], some (.array (.object "java/lang/Object"))⟩ := by decide +kernel
theorem d16_0 : decode jdk_29_method_65_code 0 = .ok (.iload_n 0, 1) := by decide +kernel
theorem d16_1 : decode jdk_29_method_65_code 1 = .ok (.iload_n 1, 1) := by decide +kernel
theorem d16_2 : decode jdk_29_method_65_code 2 = .ok (.if_icmp .lt 7, 3) := by decide +kernel
theorem d16_5 : decode jdk_29_method_65_code 5 = .ok (.iload_n 0, 1) := by decide +kernel
theorem d16_6 : decode jdk_29_method_65_code 6 = .ok (.goto 4, 3) := by decide +kernel
theorem d16_9 : decode jdk_29_method_65_code 9 = .ok (.iload_n 1, 1) := by decide +kernel
theorem d16_10 : decode jdk_29_method_65_code 10 = .ok (.ireturn, 1) := by decide +kernel
theorem pn16 : plainFor (⟨"java/lang/Math", "max", "(II)I"⟩ : MethodName) = true := by first | exact plainFor_of_name (by first | (simp [plainName, overriddenIn]; done) | decide +kernel) | decide +kernel
theorem pd16 : parseMethodDescriptor "(II)I" = some ⟨[.int, .int], some .int⟩ := by decide +kernel
theorem pn0 : plainFor x = true := plainFor_of_name (by first | (simp [x, plainName, overriddenIn]; done) | decide +kernel)
def Bt (Z : State) (h : Heap) (b a : Addr) (mx : Int32) (bud by' : Int64) (cl : Int32) : Prop :=
  Exa Z h b "com/example/reserved_delivery/reserveddelivery/broker/Batch" ∧ Fld Z h b "com/example/reserved_delivery/reserveddelivery/broker/Batch" "items" "Ljava/util/List;" (.ref a) ∧ Fld Z h b "com/example/reserved_delivery/reserveddelivery/broker/Batch" "max" "I" (.int mx) ∧ Fld Z h b "com/example/reserved_delivery/reserveddelivery/broker/Batch" "budgetBytes" "J" (.long bud) ∧ Fld Z h b "com/example/reserved_delivery/reserveddelivery/broker/Batch" "bytes" "J" (.long by') ∧ Fld Z h b "com/example/reserved_delivery/reserveddelivery/broker/Batch" "closed" "Z" (.int cl)
def Li (Z : State) (h : Heap) (a d : Addr) (sz mc : Int32) : Prop :=
  Exa Z h a "java/util/ArrayList" ∧ Fld Z h a "java/util/ArrayList" "elementData" "[Ljava/lang/Object;" (.ref d) ∧ Fld Z h a "java/util/ArrayList" "size" "I" (.int sz) ∧ Fld Z h a "java/util/AbstractList" "modCount" "I" (.int mc)
theorem Bt.keep {Z : State} {h h' : Heap} {b a : Addr} {mx : Int32} {bud by' : Int64} {cl : Int32} {ws : List Addr} (B : Bt Z h b a mx bud by' cl) (K : Keep h h' ws) (q : b ∉ ws) : Bt Z h' b a mx bud by' cl :=
  ⟨B.1.keep K, B.2.1.keep K q, B.2.2.1.keep K q, B.2.2.2.1.keep K q, B.2.2.2.2.1.keep K q, B.2.2.2.2.2.keep K q⟩
theorem Li.keep {Z : State} {h h' : Heap} {a d : Addr} {sz mc : Int32} {ws : List Addr} (B : Li Z h a d sz mc) (K : Keep h h' ws) (q : a ∉ ws) : Li Z h' a d sz mc :=
  ⟨B.1.keep K, B.2.1.keep K q, B.2.2.1.keep K q, B.2.2.2.keep K q⟩
theorem Bt.setBytes {Z : State} {a0' : Array Value} (hw : ∀ d ∈ tables_1, d.before a0' Z = true) {h h' : Heap} {b a : Addr} {mx : Int32} {bud by' : Int64} {cl : Int32} {y : Int64} (B : Bt Z h b a mx bud by' cl) (Wr' : Wr h h' b (Jvm.RoadKit.slotOf Z "com/example/reserved_delivery/reserveddelivery/broker/Batch" "bytes" "J") (.long y)) : Bt Z h' b a mx bud y cl :=
  ⟨B.1.wr Wr', B.2.1.other Wr' (Or.inr (slot_ne (Or.inr (hw _ (tw 34))) (Or.inl (hw _ (tw 71))) (by decide) (t := (.object "java/util/List")) (t' := .long) (by decide) (by decide))), B.2.2.1.other Wr' (Or.inr (slot_ne (Or.inr (hw _ (tw 36))) (Or.inl (hw _ (tw 71))) (by decide) (t := .int) (t' := .long) (by decide) (by decide))), B.2.2.2.1.other Wr' (Or.inr (slot_ne (Or.inr (hw _ (tw 38))) (Or.inl (hw _ (tw 71))) (by decide) (t := .long) (t' := .long) (by decide) (by decide))), B.2.2.2.2.1.same Wr', B.2.2.2.2.2.other Wr' (Or.inr (slot_ne (Or.inl (hw _ (tw 45))) (Or.inl (hw _ (tw 71))) (by decide) (t := .boolean) (t' := .long) (by decide) (by decide)))⟩
theorem Bt.setClosed {Z : State} {a0' : Array Value} (hw : ∀ d ∈ tables_1, d.before a0' Z = true) {h h' : Heap} {b a : Addr} {mx : Int32} {bud by' : Int64} {cl : Int32} {y : Int32} (B : Bt Z h b a mx bud by' cl) (Wr' : Wr h h' b (Jvm.RoadKit.slotOf Z "com/example/reserved_delivery/reserveddelivery/broker/Batch" "closed" "Z") (.int y)) : Bt Z h' b a mx bud by' y :=
  ⟨B.1.wr Wr', B.2.1.other Wr' (Or.inr (slot_ne (Or.inr (hw _ (tw 34))) (Or.inl (hw _ (tw 45))) (by decide) (t := (.object "java/util/List")) (t' := .boolean) (by decide) (by decide))), B.2.2.1.other Wr' (Or.inr (slot_ne (Or.inr (hw _ (tw 36))) (Or.inl (hw _ (tw 45))) (by decide) (t := .int) (t' := .boolean) (by decide) (by decide))), B.2.2.2.1.other Wr' (Or.inr (slot_ne (Or.inr (hw _ (tw 38))) (Or.inl (hw _ (tw 45))) (by decide) (t := .long) (t' := .boolean) (by decide) (by decide))), B.2.2.2.2.1.other Wr' (Or.inr (slot_ne (Or.inl (hw _ (tw 71))) (Or.inl (hw _ (tw 45))) (by decide) (t := .long) (t' := .boolean) (by decide) (by decide))), B.2.2.2.2.2.same Wr'⟩
theorem Li.setData {Z : State} {a0' : Array Value} (hw : ∀ d ∈ tables_1, d.before a0' Z = true) {h h' : Heap} {a d : Addr} {sz mc : Int32} {y : Addr} (B : Li Z h a d sz mc) (Wr' : Wr h h' a (Jvm.RoadKit.slotOf Z "java/util/ArrayList" "elementData" "[Ljava/lang/Object;") (.ref y)) : Li Z h' a y sz mc :=
  ⟨B.1.wr Wr', B.2.1.same Wr', B.2.2.1.other Wr' (Or.inr (slot_ne (Or.inl (hw _ (tw 56))) (Or.inl (hw _ (tw 32))) (by decide) (t := .int) (t' := (.array (.object "java/lang/Object"))) (by decide) (by decide))), B.2.2.2.other Wr' (Or.inr (slot_ne (Or.inl (hw _ (tw 29))) (Or.inl (hw _ (tw 32))) (by decide) (t := .int) (t' := (.array (.object "java/lang/Object"))) (by decide) (by decide)))⟩
theorem Li.setSize {Z : State} {a0' : Array Value} (hw : ∀ d ∈ tables_1, d.before a0' Z = true) {h h' : Heap} {a d : Addr} {sz mc : Int32} {y : Int32} (B : Li Z h a d sz mc) (Wr' : Wr h h' a (Jvm.RoadKit.slotOf Z "java/util/ArrayList" "size" "I") (.int y)) : Li Z h' a d y mc :=
  ⟨B.1.wr Wr', B.2.1.other Wr' (Or.inr (slot_ne (Or.inl (hw _ (tw 32))) (Or.inl (hw _ (tw 56))) (by decide) (t := (.array (.object "java/lang/Object"))) (t' := .int) (by decide) (by decide))), B.2.2.1.same Wr', B.2.2.2.other Wr' (Or.inr (slot_ne (Or.inl (hw _ (tw 29))) (Or.inl (hw _ (tw 56))) (by decide) (t := .int) (t' := .int) (by decide) (by decide)))⟩
theorem Li.setMod {Z : State} {a0' : Array Value} (hw : ∀ d ∈ tables_1, d.before a0' Z = true) {h h' : Heap} {a d : Addr} {sz mc : Int32} {y : Int32} (B : Li Z h a d sz mc) (Wr' : Wr h h' a (Jvm.RoadKit.slotOf Z "java/util/AbstractList" "modCount" "I") (.int y)) : Li Z h' a d sz y :=
  ⟨B.1.wr Wr', B.2.1.other Wr' (Or.inr (slot_ne (Or.inl (hw _ (tw 32))) (Or.inl (hw _ (tw 29))) (by decide) (t := (.array (.object "java/lang/Object"))) (t' := .int) (by decide) (by decide))), B.2.2.1.other Wr' (Or.inr (slot_ne (Or.inl (hw _ (tw 56))) (Or.inl (hw _ (tw 29))) (by decide) (t := .int) (t' := .int) (by decide) (by decide))), B.2.2.2.same Wr'⟩
set_option maxRecDepth 65536 in
set_option maxHeartbeats 40000000 in
theorem ac_init (l : Launch) (Z : State) (a0' : Array Value) (hw : ∀ d ∈ tables_1, d.before a0' Z = true) (h : Heap) (a : Addr) :
    Con l Z (⟨"java/util/AbstractCollection", "<init>", "()V"⟩ : MethodName) jdk_22_method_1_code 1 none ⟨1, 0, 0, 12⟩ #[.ref a] h (Same none h) := by
  refine Con.of (Ls := #[.val (.ref a)]) hw pn5 (fun m => by first | (simp [entryFrame, mkF, argsToLocals, Value.category, maxLocals]; done) | rfl) fun W C => ?_
  refine C.kept fun hE => ?_
  have z0 : Z.heap.size ≤ h.size := hE.1
  refine C.aloadN 1 d5_0 rfl rfl rfl ?_
  refine C.initObj 4 0 d5_1 rfl (tw 27) (tw 7) (tw 8) rfl (by decide) (Nat.le_of_eq rfl) (by decide) ?_
  exact C.ret0 d5_4 rfl (by decide) (by decide) ⟨rfl, rfl⟩
set_option maxRecDepth 65536 in
set_option maxHeartbeats 40000000 in
theorem ab_init (l : Launch) (Z : State) (a0' : Array Value) (hw : ∀ d ∈ tables_1, d.before a0' Z = true) (h : Heap) (a : Addr) (g : Z.heap.size ≤ a) (E : Exa Z h a "java/util/ArrayList") (F : Fld Z h a "java/util/AbstractList" "modCount" "I" (.int 0)) :
    Con l Z (⟨"java/util/AbstractList", "<init>", "()V"⟩ : MethodName) jdk_39_method_1_code 1 none ⟨2, 0, 0, 24⟩ #[.ref a] h (fun v h' => v = none ∧ Wr h h' a (Jvm.RoadKit.slotOf Z "java/util/AbstractList" "modCount" "I") (.int 0)) := by
  refine Con.of (Ls := #[.val (.ref a)]) hw pn4 (fun m => by first | (simp [entryFrame, mkF, argsToLocals, Value.category, maxLocals]; done) | rfl) fun W C => ?_
  refine C.kept fun hE => ?_
  have z0 : Z.heap.size ≤ h.size := hE.1
  refine C.aloadN 1 d4_0 rfl rfl rfl ?_
  refine C.callI 4 (a := a) (as := []) (rest := []) (rm := ⟨1, 0, 0, 12⟩) 0 d4_1 rfl rfl rfl (tw 21) (tw 22) (tw 25) (tw 26) (by decide) (ac_init l Z a0' hw h a) pd5 rfl rfl (Nat.le_of_eq rfl) (by decide) (by decide) (by decide) (by decide) rfl ?_
  refine same_intro ?_
  show W h 0 0 4 #[.val (.ref a)] []
  refine C.aloadN 5 d4_4 rfl rfl rfl ?_
  refine C.iconst 6 (0 : Int32) d4_5 rfl rfl ?_
  refine C.putfield 9 (v' := .int (0 : Int32)) .int d4_6 rfl (tw 28) Via.refl F E (Or.inl (tw 29)) (tw 10) (by decide) rfl rfl g ?_
  intro h1 W1
  have z1 : Z.heap.size ≤ h1.size := by rw [W1.size]; exact z0
  exact C.ret0 d4_9 rfl (by decide) (by decide) ⟨rfl, W1⟩
set_option maxRecDepth 65536 in
set_option maxHeartbeats 40000000 in
theorem al_init (l : Launch) (Z : State) (a0' : Array Value) (hw : ∀ d ∈ tables_1, d.before a0' Z = true) (h : Heap) (a : Addr) (g : Z.heap.size ≤ a) (dd : Addr) (SD : Sta Z Z.heap "java/util/ArrayList" "DEFAULTCAPACITY_EMPTY_ELEMENTDATA" "[Ljava/lang/Object;" (.ref dd)) (E : Exa Z h a "java/util/ArrayList") (F0 : Fld Z h a "java/util/ArrayList" "elementData" "[Ljava/lang/Object;" .null) (F1 : Fld Z h a "java/util/ArrayList" "size" "I" (.int 0)) (F2 : Fld Z h a "java/util/AbstractList" "modCount" "I" (.int 0)) :
    Con l Z (⟨"java/util/ArrayList", "<init>", "()V"⟩ : MethodName) jdk_38_method_2_code 1 none ⟨3, 0, 0, 36⟩ #[.ref a] h (fun v h' => v = none ∧ Keep h h' [a] ∧ Li Z h' a dd 0 0) := by
  refine Con.of (Ls := #[.val (.ref a)]) hw pn3 (fun m => by first | (simp [entryFrame, mkF, argsToLocals, Value.category, maxLocals]; done) | rfl) fun W C => ?_
  refine C.kept fun hE => ?_
  have z0 : Z.heap.size ≤ h.size := hE.1
  refine C.aloadN 1 d3_0 rfl rfl rfl ?_
  refine C.callI 4 (a := a) (as := []) (rest := []) (rm := ⟨2, 0, 0, 24⟩) 0 d3_1 rfl rfl rfl (tw 15) (tw 16) (tw 19) (tw 20) (by decide) (ab_init l Z a0' hw h a g E F2) pd4 rfl rfl (Nat.le_of_eq rfl) (by decide) (by decide) (by decide) (by decide) rfl ?_
  rintro v h1 ⟨rfl, W1⟩
  have z1 : Z.heap.size ≤ h1.size := by rw [W1.size]; exact z0
  show W h1 0 0 4 #[.val (.ref a)] []
  refine C.aloadN 5 d3_4 rfl rfl rfl ?_
  refine C.getstatic 8 d3_5 rfl (tw 30) SD ?_
  have E1 := E.wr W1
  have G0 := F0.other W1 (Or.inr (slot_ne (Or.inl (hw _ (tw 32))) (Or.inl (hw _ (tw 29))) (by decide) (t := (.array (.object "java/lang/Object"))) (t' := .int) (by decide) (by decide)))
  have G1 := F1.other W1 (Or.inr (slot_ne (Or.inl (hw _ (tw 56))) (Or.inl (hw _ (tw 29))) (by decide) (t := .int) (t' := .int) (by decide) (by decide)))
  have G2 := F2.same W1
  refine C.putfield 11 (v' := .ref dd) (.array (.object "java/lang/Object")) d3_8 rfl (tw 31) Via.refl G0 E1 (Or.inl (tw 32)) (tw 10) (by decide) rfl rfl g ?_
  intro h2 W2
  have z2 : Z.heap.size ≤ h2.size := by rw [W2.size]; exact z1
  have H : Li Z h2 a dd 0 0 := ⟨E1.wr W2, G0.same W2, G1.other W2 (Or.inr (slot_ne (Or.inl (hw _ (tw 56))) (Or.inl (hw _ (tw 32))) (by decide) (t := .int) (t' := (.array (.object "java/lang/Object"))) (by decide) (by decide))), G2.other W2 (Or.inr (slot_ne (Or.inl (hw _ (tw 29))) (Or.inl (hw _ (tw 32))) (by decide) (t := .int) (t' := (.array (.object "java/lang/Object"))) (by decide) (by decide)))⟩
  exact C.ret0 d3_11 rfl (by decide) (by decide) ⟨rfl, ((Keep.of_wr W1).wr W2 (Or.inl (List.mem_of_getElem? (i := 0) rfl))), H⟩
set_option maxRecDepth 65536 in
set_option maxHeartbeats 40000000 in
theorem bt_init (l : Launch) (Z : State) (a0' : Array Value) (hw : ∀ d ∈ tables_1, d.before a0' Z = true) (h : Heap) (b : Addr) (g : Z.heap.size ≤ b) (mx : Int32) (bud : Int64) (dd : Addr) (SD : Sta Z Z.heap "java/util/ArrayList" "DEFAULTCAPACITY_EMPTY_ELEMENTDATA" "[Ljava/lang/Object;" (.ref dd)) (E : Exa Z h b "com/example/reserved_delivery/reserveddelivery/broker/Batch") (F0 : Fld Z h b "com/example/reserved_delivery/reserveddelivery/broker/Batch" "items" "Ljava/util/List;" .null) (F1 : Fld Z h b "com/example/reserved_delivery/reserveddelivery/broker/Batch" "max" "I" (.int 0)) (F2 : Fld Z h b "com/example/reserved_delivery/reserveddelivery/broker/Batch" "budgetBytes" "J" (.long 0)) (F3 : Fld Z h b "com/example/reserved_delivery/reserveddelivery/broker/Batch" "bytes" "J" (.long 0)) (F4 : Fld Z h b "com/example/reserved_delivery/reserveddelivery/broker/Batch" "closed" "Z" (.int 0)) :
    Con l Z (⟨"com/example/reserved_delivery/reserveddelivery/broker/Batch", "<init>", "(IJ)V"⟩ : MethodName) prog_9_method_1_code 4 none ⟨4, 1, 3, 52⟩ #[.ref b, .int mx, .long bud] h (fun v h' => v = none ∧ ∃ a, Z.heap.size ≤ a ∧ Bt Z h' b a mx bud 0 0 ∧ Li Z h' a dd 0 0) := by
  refine Con.of (Ls := #[.val (.ref b), .val (.int mx), .val (.long bud), .second]) hw pn1 (fun m => by first | (simp [entryFrame, mkF, argsToLocals, Value.category, maxLocals]; done) | rfl) fun W C => ?_
  refine C.kept fun hE => ?_
  have z0 : Z.heap.size ≤ h.size := hE.1
  refine C.aloadN 1 d1_0 rfl rfl rfl ?_
  refine C.initObj 4 0 d1_1 rfl (tw 6) (tw 7) (tw 8) rfl (by decide) (Nat.le_of_eq rfl) (by decide) ?_
  refine C.aloadN 5 d1_4 rfl rfl rfl ?_
  refine C.new 8 d1_5 rfl (tw 9) (tw 10) (tw 11) (by decide) (by decide) ?_
  intro h1 E1 X1 D1
  obtain ⟨b1, g1⟩ : ∃ z, z = h.size := ⟨_, rfl⟩
  rw [← g1] at X1 ⊢
  rw [← g1] at D1
  have z1 : Z.heap.size ≤ h1.size := Nat.le_trans z0 E1.1
  have zb1 : Z.heap.size ≤ b1 := by rw [g1]; exact z0
  show W h1 1 3 8 #[.val (.ref b), .val (.int mx), .val (.long bud), .second] [.ref b1, .ref b]
  refine C.dup 9 d1_8 rfl rfl ?_
  have N_elementData : Fld Z h1 b1 "java/util/ArrayList" "elementData" "[Ljava/lang/Object;" .null := D1 (Or.inl (hw _ (tw 32))) (ty := (.array (.object "java/lang/Object"))) (by decide)
  have N_size : Fld Z h1 b1 "java/util/ArrayList" "size" "I" (.int (0 : Int32)) := D1 (Or.inl (hw _ (tw 56))) (ty := .int) (by decide)
  have N_modCount : Fld Z h1 b1 "java/util/AbstractList" "modCount" "I" (.int (0 : Int32)) := D1 (Or.inl (hw _ (tw 29))) (ty := .int) (by decide)
  have K1 : Keep h h1 [] := (Keep.refl h []).ext E1
  have nab : b ≠ b1 := by rw [g1]; exact Nat.ne_of_lt E.lt
  refine C.callI 12 (a := b1) (as := []) (rest := [.ref b1, .ref b]) (rm := ⟨3, 0, 0, 36⟩) 2 d1_9 rfl rfl rfl (tw 12) (tw 13) (tw 11) (tw 14) (by decide) (al_init l Z a0' hw h1 b1 zb1 dd SD X1 N_elementData N_size N_modCount) pd3 rfl rfl (Nat.le_of_eq rfl) (by decide) (by decide) (by decide) (by decide) rfl ?_
  rintro v h2 ⟨rfl, K2, L2⟩
  have z2 : Z.heap.size ≤ h2.size := Nat.le_trans z1 K2.1
  show W h2 1 3 12 #[.val (.ref b), .val (.int mx), .val (.long bud), .second] [.ref b1, .ref b]
  have E' := (E.keep K1).keep K2
  have G0 := (F0.keep K1 nin0).keep K2 (ninS nab nin0)
  have G1 := (F1.keep K1 nin0).keep K2 (ninS nab nin0)
  have G2 := (F2.keep K1 nin0).keep K2 (ninS nab nin0)
  have G3 := (F3.keep K1 nin0).keep K2 (ninS nab nin0)
  have G4 := (F4.keep K1 nin0).keep K2 (ninS nab nin0)
  refine C.putfield 15 (v' := .ref b1) (.object "java/util/List") d1_12 rfl (tw 33) Via.refl G0 E' (Or.inr ⟨(tw 34), rfl, rfl⟩) (tw 1) (by decide) rfl rfl g ?_
  intro h3 W3
  have z3 : Z.heap.size ≤ h3.size := by rw [W3.size]; exact z2
  have E1 := E'.wr W3
  have H0 := G0.same W3
  have H1 := G1.other W3 (Or.inr (slot_ne (Or.inr (hw _ (tw 36))) (Or.inr (hw _ (tw 34))) (by decide) (t := .int) (t' := (.object "java/util/List")) (by decide) (by decide)))
  have H2 := G2.other W3 (Or.inr (slot_ne (Or.inr (hw _ (tw 38))) (Or.inr (hw _ (tw 34))) (by decide) (t := .long) (t' := (.object "java/util/List")) (by decide) (by decide)))
  have H3 := G3.other W3 (Or.inr (slot_ne (Or.inl (hw _ (tw 71))) (Or.inr (hw _ (tw 34))) (by decide) (t := .long) (t' := (.object "java/util/List")) (by decide) (by decide)))
  have H4 := G4.other W3 (Or.inr (slot_ne (Or.inl (hw _ (tw 45))) (Or.inr (hw _ (tw 34))) (by decide) (t := .boolean) (t' := (.object "java/util/List")) (by decide) (by decide)))
  have L1 := L2.keep (Keep.of_wr W3) (ninS nab.symm nin0)
  refine C.aloadN 16 d1_15 rfl rfl rfl ?_
  refine C.iloadN 17 d1_16 rfl rfl ?_
  refine C.putfield 20 (v' := .int mx) .int d1_17 rfl (tw 35) Via.refl H1 E1 (Or.inr ⟨(tw 36), rfl, rfl⟩) (tw 1) (by decide) rfl rfl g ?_
  intro h4 W4
  have z4 : Z.heap.size ≤ h4.size := by rw [W4.size]; exact z3
  have E2 := E1.wr W4
  have I0 := H0.other W4 (Or.inr (slot_ne (Or.inr (hw _ (tw 34))) (Or.inr (hw _ (tw 36))) (by decide) (t := (.object "java/util/List")) (t' := .int) (by decide) (by decide)))
  have I1 := H1.same W4
  have I2 := H2.other W4 (Or.inr (slot_ne (Or.inr (hw _ (tw 38))) (Or.inr (hw _ (tw 36))) (by decide) (t := .long) (t' := .int) (by decide) (by decide)))
  have I3 := H3.other W4 (Or.inr (slot_ne (Or.inl (hw _ (tw 71))) (Or.inr (hw _ (tw 36))) (by decide) (t := .long) (t' := .int) (by decide) (by decide)))
  have I4 := H4.other W4 (Or.inr (slot_ne (Or.inl (hw _ (tw 45))) (Or.inr (hw _ (tw 36))) (by decide) (t := .boolean) (t' := .int) (by decide) (by decide)))
  have L2 := L1.keep (Keep.of_wr W4) (ninS nab.symm nin0)
  refine C.aloadN 21 d1_20 rfl rfl rfl ?_
  refine C.lloadN 22 d1_21 rfl rfl ?_
  refine C.putfield 25 (v' := .long bud) .long d1_22 rfl (tw 37) Via.refl I2 E2 (Or.inr ⟨(tw 38), rfl, rfl⟩) (tw 1) (by decide) rfl rfl g ?_
  intro h5 W5
  have z5 : Z.heap.size ≤ h5.size := by rw [W5.size]; exact z4
  have E3 := E2.wr W5
  have J0 := I0.other W5 (Or.inr (slot_ne (Or.inr (hw _ (tw 34))) (Or.inr (hw _ (tw 38))) (by decide) (t := (.object "java/util/List")) (t' := .long) (by decide) (by decide)))
  have J1 := I1.other W5 (Or.inr (slot_ne (Or.inr (hw _ (tw 36))) (Or.inr (hw _ (tw 38))) (by decide) (t := .int) (t' := .long) (by decide) (by decide)))
  have J2 := I2.same W5
  have J3 := I3.other W5 (Or.inr (slot_ne (Or.inl (hw _ (tw 71))) (Or.inr (hw _ (tw 38))) (by decide) (t := .long) (t' := .long) (by decide) (by decide)))
  have J4 := I4.other W5 (Or.inr (slot_ne (Or.inl (hw _ (tw 45))) (Or.inr (hw _ (tw 38))) (by decide) (t := .boolean) (t' := .long) (by decide) (by decide)))
  have L3 := L2.keep (Keep.of_wr W5) (ninS nab.symm nin0)
  exact C.ret0 d1_25 rfl (by decide) (by decide) ⟨rfl, b1, zb1, ⟨E3, J0, J1, J2, J3, J4⟩, L3⟩
set_option maxRecDepth 65536 in
set_option maxHeartbeats 40000000 in
theorem al_size (l : Launch) (Z : State) (a0' : Array Value) (hw : ∀ d ∈ tables_1, d.before a0' Z = true) (h : Heap) (a d : Addr) (sz mc : Int32) (B : Li Z h a d sz mc) :
    Con l Z (⟨"java/util/ArrayList", "size", "()I"⟩ : MethodName) jdk_38_method_8_code 1 (some .int) ⟨0, 0, 0, 0⟩ #[.ref a] h (Same (some (.int sz)) h) := by
  refine Con.of (Ls := #[.val (.ref a)]) hw pn7 (fun m => by first | (simp [entryFrame, mkF, argsToLocals, Value.category, maxLocals]; done) | rfl) fun W C => ?_
  refine C.kept fun hE => ?_
  have z0 : Z.heap.size ≤ h.size := hE.1
  refine C.aloadN 1 d7_0 rfl rfl rfl ?_
  refine C.getfield 4 d7_1 rfl (tw 55) Via.refl B.2.2.1 ?_
  exact C.retI .int d7_4 rfl (by simp) rfl (by decide) (by decide) ⟨rfl, rfl⟩
set_option maxRecDepth 65536 in
set_option maxHeartbeats 40000000 in
theorem al_empty (l : Launch) (Z : State) (a0' : Array Value) (hw : ∀ d ∈ tables_1, d.before a0' Z = true) (h : Heap) (a d : Addr) (sz mc : Int32) (B : Li Z h a d sz mc) (hs : sz = 0) :
    Con l Z (⟨"java/util/ArrayList", "isEmpty", "()Z"⟩ : MethodName) jdk_38_method_9_code 1 (some .boolean) ⟨0, 0, 0, 0⟩ #[.ref a] h (Same (some (.int (1 : Int32))) h) := by
  refine Con.of (Ls := #[.val (.ref a)]) hw pn9 (fun m => by first | (simp [entryFrame, mkF, argsToLocals, Value.category, maxLocals]; done) | rfl) fun W C => ?_
  refine C.kept fun hE => ?_
  have z0 : Z.heap.size ≤ h.size := hE.1
  refine C.aloadN 1 d9_0 rfl rfl rfl ?_
  refine C.getfield 4 d9_1 rfl (tw 55) Via.refl B.2.2.1 ?_
  refine C.ifF 7 d9_4 rfl ((if0 _ _).trans (teq hs).2) ?_
  refine C.iconst 8 (1 : Int32) d9_7 rfl rfl ?_
  refine C.goto 12 d9_8 rfl ?_
  exact C.retI .boolean d9_12 rfl (by simp) rfl (by decide) (by decide) ⟨rfl, rfl⟩
set_option maxRecDepth 65536 in
set_option maxHeartbeats 40000000 in
theorem al_full (l : Launch) (Z : State) (a0' : Array Value) (hw : ∀ d ∈ tables_1, d.before a0' Z = true) (h : Heap) (a d : Addr) (sz mc : Int32) (B : Li Z h a d sz mc) (hs : ¬ sz = 0) :
    Con l Z (⟨"java/util/ArrayList", "isEmpty", "()Z"⟩ : MethodName) jdk_38_method_9_code 1 (some .boolean) ⟨0, 0, 0, 0⟩ #[.ref a] h (Same (some (.int (0 : Int32))) h) := by
  refine Con.of (Ls := #[.val (.ref a)]) hw pn9 (fun m => by first | (simp [entryFrame, mkF, argsToLocals, Value.category, maxLocals]; done) | rfl) fun W C => ?_
  refine C.kept fun hE => ?_
  have z0 : Z.heap.size ≤ h.size := hE.1
  refine C.aloadN 1 d9_0 rfl rfl rfl ?_
  refine C.getfield 4 d9_1 rfl (tw 55) Via.refl B.2.2.1 ?_
  refine C.ifT 11 d9_4 rfl ((if0 _ _).trans (feq hs).2) ?_
  refine C.iconst 12 (0 : Int32) d9_11 rfl rfl ?_
  exact C.retI .boolean d9_12 rfl (by simp) rfl (by decide) (by decide) ⟨rfl, rfl⟩
set_option maxRecDepth 65536 in
set_option maxHeartbeats 40000000 in
theorem bt_closed (l : Launch) (Z : State) (a0' : Array Value) (hw : ∀ d ∈ tables_1, d.before a0' Z = true) (h : Heap) (b a : Addr) (mx : Int32) (bud by' : Int64) (cl : Int32) (B : Bt Z h b a mx bud by' cl) (hb : nar .boolean cl = cl) :
    Con l Z (⟨"com/example/reserved_delivery/reserveddelivery/broker/Batch", "closed", "()Z"⟩ : MethodName) prog_9_method_4_code 1 (some .boolean) ⟨0, 0, 0, 0⟩ #[.ref b] h (Same (some (.int cl)) h) := by
  refine Con.of (Ls := #[.val (.ref b)]) hw pn8 (fun m => by first | (simp [entryFrame, mkF, argsToLocals, Value.category, maxLocals]; done) | rfl) fun W C => ?_
  refine C.kept fun hE => ?_
  have z0 : Z.heap.size ≤ h.size := hE.1
  refine C.aloadN 1 d8_0 rfl rfl rfl ?_
  refine C.getfield 4 d8_1 rfl (tw 44) Via.refl B.2.2.2.2.2 ?_
  exact C.retI .boolean d8_4 rfl (by simp) hb (by decide) (by decide) ⟨rfl, rfl⟩
set_option maxRecDepth 65536 in
set_option maxHeartbeats 40000000 in
theorem ac_shut (l : Launch) (Z : State) (a0' : Array Value) (hw : ∀ d ∈ tables_1, d.before a0' Z = true) (h : Heap) (b a d : Addr) (g : Z.heap.size ≤ b) (mx sz mc len : Int32) (bud by' : Int64) (B : Bt Z h b a mx bud by' (1 : Int32)) (L : Li Z h a d sz mc)  :
    Con l Z (⟨"com/example/reserved_delivery/reserveddelivery/broker/Batch", "accepts", "(I)Z"⟩ : MethodName) prog_9_method_2_code 2 (some .boolean) ⟨1, 0, 0, 20⟩ #[.ref b, .int len] h (fun v h' => v = some (.int (0 : Int32)) ∧ Bt Z h' b a mx bud by' (1 : Int32) ∧ Li Z h' a d sz mc ∧ Keep h h' [b]) := by
  refine Con.of (Ls := #[.val (.ref b), .val (.int len)]) hw pn6 (fun m => by first | (simp [entryFrame, mkF, argsToLocals, Value.category, maxLocals]; done) | rfl) fun W C => ?_
  refine C.kept fun hE => ?_
  have z0 : Z.heap.size ≤ h.size := hE.1
  have nab : a ≠ b := ne_exa L.1 B.1 (by decide)
  refine C.aloadN 1 d6_0 rfl rfl rfl ?_
  refine C.aloadN 2 d6_1 rfl rfl rfl ?_
  refine C.getfield 5 d6_2 rfl (tw 44) Via.refl B.2.2.2.2.2 ?_
  refine C.ifT 51 d6_5 rfl (by decide) ?_
  refine C.iconst 52 (1 : Int32) d6_51 rfl rfl ?_
  refine C.goto 56 d6_52 rfl ?_
  refine C.putfield 59 (v' := .int (1 : Int32)) .boolean d6_56 rfl (tw 44) Via.refl B.2.2.2.2.2 B.1 (Or.inl (tw 45)) (tw 1) (by decide) rfl rfl g ?_
  intro h1 W1
  have z1 : Z.heap.size ≤ h1.size := by rw [W1.size]; exact z0
  have B1 : Bt Z h1 b a mx bud by' (1 : Int32) := B.setClosed hw W1
  have L1 := L.keep (Keep.of_wr W1) (ninS nab nin0)
  have K1 := Keep.of_wr W1
  refine C.aloadN 60 d6_59 rfl rfl rfl ?_
  refine C.getfield 63 d6_60 rfl (tw 44) Via.refl B1.2.2.2.2.2 ?_
  refine C.ifT 77 d6_63 rfl (by decide) ?_
  refine C.aloadN 78 d6_77 rfl rfl rfl ?_
  refine C.getfield 81 d6_78 rfl (tw 44) Via.refl B1.2.2.2.2.2 ?_
  refine C.ifT 88 d6_81 rfl (by decide) ?_
  refine C.iconst 89 (0 : Int32) d6_88 rfl rfl ?_
  exact C.retI .boolean d6_89 rfl (by simp) rfl (by decide) (by decide) ⟨rfl, B1, L1, K1⟩
set_option maxRecDepth 65536 in
set_option maxHeartbeats 40000000 in
theorem ac_max (l : Launch) (Z : State) (a0' : Array Value) (hw : ∀ d ∈ tables_1, d.before a0' Z = true) (h : Heap) (b a d : Addr) (g : Z.heap.size ≤ b) (mx sz mc len : Int32) (bud by' : Int64) (B : Bt Z h b a mx bud by' (0 : Int32)) (L : Li Z h a d sz mc) (hm : sz = mx) :
    Con l Z (⟨"com/example/reserved_delivery/reserveddelivery/broker/Batch", "accepts", "(I)Z"⟩ : MethodName) prog_9_method_2_code 2 (some .boolean) ⟨1, 0, 0, 20⟩ #[.ref b, .int len] h (fun v h' => v = some (.int (0 : Int32)) ∧ Bt Z h' b a mx bud by' (1 : Int32) ∧ Li Z h' a d sz mc ∧ Keep h h' [b]) := by
  refine Con.of (Ls := #[.val (.ref b), .val (.int len)]) hw pn6 (fun m => by first | (simp [entryFrame, mkF, argsToLocals, Value.category, maxLocals]; done) | rfl) fun W C => ?_
  refine C.kept fun hE => ?_
  have z0 : Z.heap.size ≤ h.size := hE.1
  have nab : a ≠ b := ne_exa L.1 B.1 (by decide)
  refine C.aloadN 1 d6_0 rfl rfl rfl ?_
  refine C.aloadN 2 d6_1 rfl rfl rfl ?_
  refine C.getfield 5 d6_2 rfl (tw 44) Via.refl B.2.2.2.2.2 ?_
  refine C.ifF 8 d6_5 rfl (by decide) ?_
  refine C.aloadN 9 d6_8 rfl rfl rfl ?_
  refine C.getfield 12 d6_9 rfl (tw 33) Via.refl B.2.1 ?_
  refine C.callF 17 (as := []) (rest := [.ref b]) (rm := ⟨0, 0, 0, 0⟩) 1 d6_12 rfl (tw 46) (tw 47) (tw 48) (tw 49) (tw 50) (tw 51) (tw 52) (tw 53) rfl (tw 11) (tw 54) (by decide) L.1 (al_size l Z a0' hw h a d sz mc L) pd7 rfl rfl (Nat.le_of_eq rfl) (by decide) (by decide) (by decide) (by decide) rfl ?_
  refine same_intro ?_
  show W h 0 0 17 #[.val (.ref b), .val (.int len)] [.int sz, .ref b]
  refine C.aloadN 18 d6_17 rfl rfl rfl ?_
  refine C.getfield 21 d6_18 rfl (tw 35) Via.refl B.2.2.1 ?_
  refine C.icmpT 51 d6_21 rfl (teq hm).1 ?_
  refine C.iconst 52 (1 : Int32) d6_51 rfl rfl ?_
  refine C.goto 56 d6_52 rfl ?_
  refine C.putfield 59 (v' := .int (1 : Int32)) .boolean d6_56 rfl (tw 44) Via.refl B.2.2.2.2.2 B.1 (Or.inl (tw 45)) (tw 1) (by decide) rfl rfl g ?_
  intro h1 W1
  have z1 : Z.heap.size ≤ h1.size := by rw [W1.size]; exact z0
  have B1 : Bt Z h1 b a mx bud by' (1 : Int32) := B.setClosed hw W1
  have L1 := L.keep (Keep.of_wr W1) (ninS nab nin0)
  have K1 := Keep.of_wr W1
  refine C.aloadN 60 d6_59 rfl rfl rfl ?_
  refine C.getfield 63 d6_60 rfl (tw 44) Via.refl B1.2.2.2.2.2 ?_
  refine C.ifT 77 d6_63 rfl (by decide) ?_
  refine C.aloadN 78 d6_77 rfl rfl rfl ?_
  refine C.getfield 81 d6_78 rfl (tw 44) Via.refl B1.2.2.2.2.2 ?_
  refine C.ifT 88 d6_81 rfl (by decide) ?_
  refine C.iconst 89 (0 : Int32) d6_88 rfl rfl ?_
  exact C.retI .boolean d6_89 rfl (by simp) rfl (by decide) (by decide) ⟨rfl, B1, L1, K1⟩
set_option maxRecDepth 65536 in
set_option maxHeartbeats 40000000 in
theorem ac_empty (l : Launch) (Z : State) (a0' : Array Value) (hw : ∀ d ∈ tables_1, d.before a0' Z = true) (h : Heap) (b a d : Addr) (g : Z.heap.size ≤ b) (mx sz mc len : Int32) (bud by' : Int64) (B : Bt Z h b a mx bud by' (0 : Int32)) (L : Li Z h a d sz mc) (hm : ¬ sz = mx) (hs : sz = 0) :
    Con l Z (⟨"com/example/reserved_delivery/reserveddelivery/broker/Batch", "accepts", "(I)Z"⟩ : MethodName) prog_9_method_2_code 2 (some .boolean) ⟨1, 0, 0, 20⟩ #[.ref b, .int len] h (fun v h' => v = some (.int (1 : Int32)) ∧ Bt Z h' b a mx bud (by' + len.toInt64) (0 : Int32) ∧ Li Z h' a d sz mc ∧ Keep h h' [b]) := by
  refine Con.of (Ls := #[.val (.ref b), .val (.int len)]) hw pn6 (fun m => by first | (simp [entryFrame, mkF, argsToLocals, Value.category, maxLocals]; done) | rfl) fun W C => ?_
  refine C.kept fun hE => ?_
  have z0 : Z.heap.size ≤ h.size := hE.1
  have nab : a ≠ b := ne_exa L.1 B.1 (by decide)
  refine C.aloadN 1 d6_0 rfl rfl rfl ?_
  refine C.aloadN 2 d6_1 rfl rfl rfl ?_
  refine C.getfield 5 d6_2 rfl (tw 44) Via.refl B.2.2.2.2.2 ?_
  refine C.ifF 8 d6_5 rfl (by decide) ?_
  refine C.aloadN 9 d6_8 rfl rfl rfl ?_
  refine C.getfield 12 d6_9 rfl (tw 33) Via.refl B.2.1 ?_
  refine C.callF 17 (as := []) (rest := [.ref b]) (rm := ⟨0, 0, 0, 0⟩) 1 d6_12 rfl (tw 46) (tw 47) (tw 48) (tw 49) (tw 50) (tw 51) (tw 52) (tw 53) rfl (tw 11) (tw 54) (by decide) L.1 (al_size l Z a0' hw h a d sz mc L) pd7 rfl rfl (Nat.le_of_eq rfl) (by decide) (by decide) (by decide) (by decide) rfl ?_
  refine same_intro ?_
  show W h 0 0 17 #[.val (.ref b), .val (.int len)] [.int sz, .ref b]
  refine C.aloadN 18 d6_17 rfl rfl rfl ?_
  refine C.getfield 21 d6_18 rfl (tw 35) Via.refl B.2.2.1 ?_
  refine C.icmpF 24 d6_21 rfl (feq hm).1 ?_
  refine C.aloadN 25 d6_24 rfl rfl rfl ?_
  refine C.getfield 28 d6_25 rfl (tw 33) Via.refl B.2.1 ?_
  refine C.callF 33 (as := []) (rest := [.ref b]) (rm := ⟨0, 0, 0, 0⟩) 1 d6_28 rfl (tw 62) (tw 63) (tw 64) (tw 65) (tw 66) (tw 67) (tw 68) (tw 53) rfl (tw 11) (tw 69) (by decide) L.1 (al_empty l Z a0' hw h a d sz mc L hs) pd9 rfl rfl (Nat.le_of_eq rfl) (by decide) (by decide) (by decide) (by decide) rfl ?_
  refine same_intro ?_
  show W h 0 0 33 #[.val (.ref b), .val (.int len)] [.int (1 : Int32), .ref b]
  refine C.ifT 55 d6_33 rfl (by decide) ?_
  refine C.iconst 56 (0 : Int32) d6_55 rfl rfl ?_
  refine C.putfield 59 (v' := .int (0 : Int32)) .boolean d6_56 rfl (tw 44) Via.refl B.2.2.2.2.2 B.1 (Or.inl (tw 45)) (tw 1) (by decide) rfl rfl g ?_
  intro h1 W1
  have z1 : Z.heap.size ≤ h1.size := by rw [W1.size]; exact z0
  have B1 : Bt Z h1 b a mx bud by' (0 : Int32) := B.setClosed hw W1
  have L1 := L.keep (Keep.of_wr W1) (ninS nab nin0)
  have K1 := Keep.of_wr W1
  refine C.aloadN 60 d6_59 rfl rfl rfl ?_
  refine C.getfield 63 d6_60 rfl (tw 44) Via.refl B1.2.2.2.2.2 ?_
  refine C.ifF 66 d6_63 rfl (by decide) ?_
  refine C.aloadN 67 d6_66 rfl rfl rfl ?_
  refine C.dup 68 d6_67 rfl rfl ?_
  refine C.getfield 71 d6_68 rfl (tw 70) Via.refl B1.2.2.2.2.1 ?_
  refine C.iloadN 72 d6_71 rfl rfl ?_
  refine C.i2l 73 d6_72 rfl ?_
  refine C.ladd 74 d6_73 rfl ?_
  refine C.putfield 77 (v' := .long (by' + (Int32.toInt64 len))) .long d6_74 rfl (tw 70) Via.refl B1.2.2.2.2.1 B1.1 (Or.inl (tw 71)) (tw 1) (by decide) rfl rfl g ?_
  intro h2 W2
  have z2 : Z.heap.size ≤ h2.size := by rw [W2.size]; exact z1
  have B2 : Bt Z h2 b a mx bud (by' + len.toInt64) (0 : Int32) := B1.setBytes hw W2
  have L2 := L1.keep (Keep.of_wr W2) (ninS nab nin0)
  have K2 := K1.wr W2 (Or.inl (List.mem_of_getElem? (i := 0) rfl))
  refine C.aloadN 78 d6_77 rfl rfl rfl ?_
  refine C.getfield 81 d6_78 rfl (tw 44) Via.refl B2.2.2.2.2.2 ?_
  refine C.ifF 84 d6_81 rfl (by decide) ?_
  refine C.iconst 85 (1 : Int32) d6_84 rfl rfl ?_
  refine C.goto 89 d6_85 rfl ?_
  exact C.retI .boolean d6_89 rfl (by simp) rfl (by decide) (by decide) ⟨rfl, B2, L2, K2⟩
set_option maxRecDepth 65536 in
set_option maxHeartbeats 40000000 in
theorem ac_fits (l : Launch) (Z : State) (a0' : Array Value) (hw : ∀ d ∈ tables_1, d.before a0' Z = true) (h : Heap) (b a d : Addr) (g : Z.heap.size ≤ b) (mx sz mc len : Int32) (bud by' : Int64) (B : Bt Z h b a mx bud by' (0 : Int32)) (L : Li Z h a d sz mc) (hm : ¬ sz = mx) (hs : ¬ sz = 0) (hl : ifCond.holds .le (XT.cmpL (by' + len.toInt64) bud) = true) :
    Con l Z (⟨"com/example/reserved_delivery/reserveddelivery/broker/Batch", "accepts", "(I)Z"⟩ : MethodName) prog_9_method_2_code 2 (some .boolean) ⟨1, 0, 0, 20⟩ #[.ref b, .int len] h (fun v h' => v = some (.int (1 : Int32)) ∧ Bt Z h' b a mx bud (by' + len.toInt64) (0 : Int32) ∧ Li Z h' a d sz mc ∧ Keep h h' [b]) := by
  refine Con.of (Ls := #[.val (.ref b), .val (.int len)]) hw pn6 (fun m => by first | (simp [entryFrame, mkF, argsToLocals, Value.category, maxLocals]; done) | rfl) fun W C => ?_
  refine C.kept fun hE => ?_
  have z0 : Z.heap.size ≤ h.size := hE.1
  have nab : a ≠ b := ne_exa L.1 B.1 (by decide)
  refine C.aloadN 1 d6_0 rfl rfl rfl ?_
  refine C.aloadN 2 d6_1 rfl rfl rfl ?_
  refine C.getfield 5 d6_2 rfl (tw 44) Via.refl B.2.2.2.2.2 ?_
  refine C.ifF 8 d6_5 rfl (by decide) ?_
  refine C.aloadN 9 d6_8 rfl rfl rfl ?_
  refine C.getfield 12 d6_9 rfl (tw 33) Via.refl B.2.1 ?_
  refine C.callF 17 (as := []) (rest := [.ref b]) (rm := ⟨0, 0, 0, 0⟩) 1 d6_12 rfl (tw 46) (tw 47) (tw 48) (tw 49) (tw 50) (tw 51) (tw 52) (tw 53) rfl (tw 11) (tw 54) (by decide) L.1 (al_size l Z a0' hw h a d sz mc L) pd7 rfl rfl (Nat.le_of_eq rfl) (by decide) (by decide) (by decide) (by decide) rfl ?_
  refine same_intro ?_
  show W h 0 0 17 #[.val (.ref b), .val (.int len)] [.int sz, .ref b]
  refine C.aloadN 18 d6_17 rfl rfl rfl ?_
  refine C.getfield 21 d6_18 rfl (tw 35) Via.refl B.2.2.1 ?_
  refine C.icmpF 24 d6_21 rfl (feq hm).1 ?_
  refine C.aloadN 25 d6_24 rfl rfl rfl ?_
  refine C.getfield 28 d6_25 rfl (tw 33) Via.refl B.2.1 ?_
  refine C.callF 33 (as := []) (rest := [.ref b]) (rm := ⟨0, 0, 0, 0⟩) 1 d6_28 rfl (tw 62) (tw 63) (tw 64) (tw 65) (tw 66) (tw 67) (tw 68) (tw 53) rfl (tw 11) (tw 69) (by decide) L.1 (al_full l Z a0' hw h a d sz mc L hs) pd9 rfl rfl (Nat.le_of_eq rfl) (by decide) (by decide) (by decide) (by decide) rfl ?_
  refine same_intro ?_
  show W h 0 0 33 #[.val (.ref b), .val (.int len)] [.int (0 : Int32), .ref b]
  refine C.ifF 36 d6_33 rfl (by decide) ?_
  refine C.aloadN 37 d6_36 rfl rfl rfl ?_
  refine C.getfield 40 d6_37 rfl (tw 70) Via.refl B.2.2.2.2.1 ?_
  refine C.iloadN 41 d6_40 rfl rfl ?_
  refine C.i2l 42 d6_41 rfl ?_
  refine C.ladd 43 d6_42 rfl ?_
  refine C.aloadN 44 d6_43 rfl rfl rfl ?_
  refine C.getfield 47 d6_44 rfl (tw 37) Via.refl B.2.2.2.1 ?_
  refine C.lcmp 48 d6_47 rfl ?_
  refine C.ifT 55 d6_48 rfl hl ?_
  refine C.iconst 56 (0 : Int32) d6_55 rfl rfl ?_
  refine C.putfield 59 (v' := .int (0 : Int32)) .boolean d6_56 rfl (tw 44) Via.refl B.2.2.2.2.2 B.1 (Or.inl (tw 45)) (tw 1) (by decide) rfl rfl g ?_
  intro h1 W1
  have z1 : Z.heap.size ≤ h1.size := by rw [W1.size]; exact z0
  have B1 : Bt Z h1 b a mx bud by' (0 : Int32) := B.setClosed hw W1
  have L1 := L.keep (Keep.of_wr W1) (ninS nab nin0)
  have K1 := Keep.of_wr W1
  refine C.aloadN 60 d6_59 rfl rfl rfl ?_
  refine C.getfield 63 d6_60 rfl (tw 44) Via.refl B1.2.2.2.2.2 ?_
  refine C.ifF 66 d6_63 rfl (by decide) ?_
  refine C.aloadN 67 d6_66 rfl rfl rfl ?_
  refine C.dup 68 d6_67 rfl rfl ?_
  refine C.getfield 71 d6_68 rfl (tw 70) Via.refl B1.2.2.2.2.1 ?_
  refine C.iloadN 72 d6_71 rfl rfl ?_
  refine C.i2l 73 d6_72 rfl ?_
  refine C.ladd 74 d6_73 rfl ?_
  refine C.putfield 77 (v' := .long (by' + (Int32.toInt64 len))) .long d6_74 rfl (tw 70) Via.refl B1.2.2.2.2.1 B1.1 (Or.inl (tw 71)) (tw 1) (by decide) rfl rfl g ?_
  intro h2 W2
  have z2 : Z.heap.size ≤ h2.size := by rw [W2.size]; exact z1
  have B2 : Bt Z h2 b a mx bud (by' + len.toInt64) (0 : Int32) := B1.setBytes hw W2
  have L2 := L1.keep (Keep.of_wr W2) (ninS nab nin0)
  have K2 := K1.wr W2 (Or.inl (List.mem_of_getElem? (i := 0) rfl))
  refine C.aloadN 78 d6_77 rfl rfl rfl ?_
  refine C.getfield 81 d6_78 rfl (tw 44) Via.refl B2.2.2.2.2.2 ?_
  refine C.ifF 84 d6_81 rfl (by decide) ?_
  refine C.iconst 85 (1 : Int32) d6_84 rfl rfl ?_
  refine C.goto 89 d6_85 rfl ?_
  exact C.retI .boolean d6_89 rfl (by simp) rfl (by decide) (by decide) ⟨rfl, B2, L2, K2⟩
set_option maxRecDepth 65536 in
set_option maxHeartbeats 40000000 in
theorem ac_over (l : Launch) (Z : State) (a0' : Array Value) (hw : ∀ d ∈ tables_1, d.before a0' Z = true) (h : Heap) (b a d : Addr) (g : Z.heap.size ≤ b) (mx sz mc len : Int32) (bud by' : Int64) (B : Bt Z h b a mx bud by' (0 : Int32)) (L : Li Z h a d sz mc) (hm : ¬ sz = mx) (hs : ¬ sz = 0) (hl : ifCond.holds .le (XT.cmpL (by' + len.toInt64) bud) = false) :
    Con l Z (⟨"com/example/reserved_delivery/reserveddelivery/broker/Batch", "accepts", "(I)Z"⟩ : MethodName) prog_9_method_2_code 2 (some .boolean) ⟨1, 0, 0, 20⟩ #[.ref b, .int len] h (fun v h' => v = some (.int (0 : Int32)) ∧ Bt Z h' b a mx bud by' (1 : Int32) ∧ Li Z h' a d sz mc ∧ Keep h h' [b]) := by
  refine Con.of (Ls := #[.val (.ref b), .val (.int len)]) hw pn6 (fun m => by first | (simp [entryFrame, mkF, argsToLocals, Value.category, maxLocals]; done) | rfl) fun W C => ?_
  refine C.kept fun hE => ?_
  have z0 : Z.heap.size ≤ h.size := hE.1
  have nab : a ≠ b := ne_exa L.1 B.1 (by decide)
  refine C.aloadN 1 d6_0 rfl rfl rfl ?_
  refine C.aloadN 2 d6_1 rfl rfl rfl ?_
  refine C.getfield 5 d6_2 rfl (tw 44) Via.refl B.2.2.2.2.2 ?_
  refine C.ifF 8 d6_5 rfl (by decide) ?_
  refine C.aloadN 9 d6_8 rfl rfl rfl ?_
  refine C.getfield 12 d6_9 rfl (tw 33) Via.refl B.2.1 ?_
  refine C.callF 17 (as := []) (rest := [.ref b]) (rm := ⟨0, 0, 0, 0⟩) 1 d6_12 rfl (tw 46) (tw 47) (tw 48) (tw 49) (tw 50) (tw 51) (tw 52) (tw 53) rfl (tw 11) (tw 54) (by decide) L.1 (al_size l Z a0' hw h a d sz mc L) pd7 rfl rfl (Nat.le_of_eq rfl) (by decide) (by decide) (by decide) (by decide) rfl ?_
  refine same_intro ?_
  show W h 0 0 17 #[.val (.ref b), .val (.int len)] [.int sz, .ref b]
  refine C.aloadN 18 d6_17 rfl rfl rfl ?_
  refine C.getfield 21 d6_18 rfl (tw 35) Via.refl B.2.2.1 ?_
  refine C.icmpF 24 d6_21 rfl (feq hm).1 ?_
  refine C.aloadN 25 d6_24 rfl rfl rfl ?_
  refine C.getfield 28 d6_25 rfl (tw 33) Via.refl B.2.1 ?_
  refine C.callF 33 (as := []) (rest := [.ref b]) (rm := ⟨0, 0, 0, 0⟩) 1 d6_28 rfl (tw 62) (tw 63) (tw 64) (tw 65) (tw 66) (tw 67) (tw 68) (tw 53) rfl (tw 11) (tw 69) (by decide) L.1 (al_full l Z a0' hw h a d sz mc L hs) pd9 rfl rfl (Nat.le_of_eq rfl) (by decide) (by decide) (by decide) (by decide) rfl ?_
  refine same_intro ?_
  show W h 0 0 33 #[.val (.ref b), .val (.int len)] [.int (0 : Int32), .ref b]
  refine C.ifF 36 d6_33 rfl (by decide) ?_
  refine C.aloadN 37 d6_36 rfl rfl rfl ?_
  refine C.getfield 40 d6_37 rfl (tw 70) Via.refl B.2.2.2.2.1 ?_
  refine C.iloadN 41 d6_40 rfl rfl ?_
  refine C.i2l 42 d6_41 rfl ?_
  refine C.ladd 43 d6_42 rfl ?_
  refine C.aloadN 44 d6_43 rfl rfl rfl ?_
  refine C.getfield 47 d6_44 rfl (tw 37) Via.refl B.2.2.2.1 ?_
  refine C.lcmp 48 d6_47 rfl ?_
  refine C.ifF 51 d6_48 rfl hl ?_
  refine C.iconst 52 (1 : Int32) d6_51 rfl rfl ?_
  refine C.goto 56 d6_52 rfl ?_
  refine C.putfield 59 (v' := .int (1 : Int32)) .boolean d6_56 rfl (tw 44) Via.refl B.2.2.2.2.2 B.1 (Or.inl (tw 45)) (tw 1) (by decide) rfl rfl g ?_
  intro h1 W1
  have z1 : Z.heap.size ≤ h1.size := by rw [W1.size]; exact z0
  have B1 : Bt Z h1 b a mx bud by' (1 : Int32) := B.setClosed hw W1
  have L1 := L.keep (Keep.of_wr W1) (ninS nab nin0)
  have K1 := Keep.of_wr W1
  refine C.aloadN 60 d6_59 rfl rfl rfl ?_
  refine C.getfield 63 d6_60 rfl (tw 44) Via.refl B1.2.2.2.2.2 ?_
  refine C.ifT 77 d6_63 rfl (by decide) ?_
  refine C.aloadN 78 d6_77 rfl rfl rfl ?_
  refine C.getfield 81 d6_78 rfl (tw 44) Via.refl B1.2.2.2.2.2 ?_
  refine C.ifT 88 d6_81 rfl (by decide) ?_
  refine C.iconst 89 (0 : Int32) d6_88 rfl rfl ?_
  exact C.retI .boolean d6_89 rfl (by simp) rfl (by decide) (by decide) ⟨rfl, B1, L1, K1⟩
set_option maxRecDepth 65536 in
set_option maxHeartbeats 40000000 in
theorem vo_1 (l : Launch) (Z : State) (a0' : Array Value) (hw : ∀ d ∈ tables_1, d.before a0' Z = true) (h : Heap) (SH : Sta Z Z.heap "java/lang/Integer$IntegerCache" "high" "I" (.int (127 : Int32))) (ca : Addr) (SC : Sta Z Z.heap "java/lang/Integer$IntegerCache" "cache" "[Ljava/lang/Integer;" (.ref ca)) (vs : List Value) (AC : Al Z Z.heap ca (.object "java/lang/Integer") vs) (i1 : Addr) (e1 : vs[129]? = some (.ref i1)) :
    Con l Z (⟨"java/lang/Integer", "valueOf", "(I)Ljava/lang/Integer;"⟩ : MethodName) jdk_33_method_22_code 1 (some (.object "java/lang/Integer")) ⟨0, 0, 0, 0⟩ #[.int (1 : Int32)] h (Same (some (.ref i1)) h) := by
  refine Con.of (Ls := #[.val (.int (1 : Int32))]) hw pn10 (fun m => by first | (simp [entryFrame, mkF, argsToLocals, Value.category, maxLocals]; done) | rfl) fun W C => ?_
  refine C.kept fun hE => ?_
  have z0 : Z.heap.size ≤ h.size := hE.1
  refine C.iloadN 1 d10_0 rfl rfl ?_
  refine C.bipush 3 (-128 : Int32) d10_1 rfl rfl ?_
  refine C.icmpF 6 d10_3 rfl (by decide) ?_
  refine C.iloadN 7 d10_6 rfl rfl ?_
  refine C.getstatic 10 d10_7 rfl (tw 76) SH ?_
  refine C.icmpF 13 d10_10 rfl (by decide) ?_
  refine C.getstatic 16 d10_13 rfl (tw 78) SC ?_
  refine C.iloadN 17 d10_16 rfl rfl ?_
  refine C.sipush 20 (128 : Int32) d10_17 rfl rfl ?_
  refine C.iadd 21 d10_20 rfl ?_
  refine C.aaloadA 22 129 (.ref i1) d10_21 rfl rfl (AC.ext hE) (by decide) rfl e1 ?_
  exact C.retA (.object "java/lang/Integer") d10_22 rfl rfl rfl (by decide) (by decide) ⟨rfl, rfl⟩
set_option maxRecDepth 65536 in
set_option maxHeartbeats 40000000 in
theorem vo_2 (l : Launch) (Z : State) (a0' : Array Value) (hw : ∀ d ∈ tables_1, d.before a0' Z = true) (h : Heap) (SH : Sta Z Z.heap "java/lang/Integer$IntegerCache" "high" "I" (.int (127 : Int32))) (ca : Addr) (SC : Sta Z Z.heap "java/lang/Integer$IntegerCache" "cache" "[Ljava/lang/Integer;" (.ref ca)) (vs : List Value) (AC : Al Z Z.heap ca (.object "java/lang/Integer") vs) (i2 : Addr) (e2 : vs[130]? = some (.ref i2)) :
    Con l Z (⟨"java/lang/Integer", "valueOf", "(I)Ljava/lang/Integer;"⟩ : MethodName) jdk_33_method_22_code 1 (some (.object "java/lang/Integer")) ⟨0, 0, 0, 0⟩ #[.int (2 : Int32)] h (Same (some (.ref i2)) h) := by
  refine Con.of (Ls := #[.val (.int (2 : Int32))]) hw pn10 (fun m => by first | (simp [entryFrame, mkF, argsToLocals, Value.category, maxLocals]; done) | rfl) fun W C => ?_
  refine C.kept fun hE => ?_
  have z0 : Z.heap.size ≤ h.size := hE.1
  refine C.iloadN 1 d10_0 rfl rfl ?_
  refine C.bipush 3 (-128 : Int32) d10_1 rfl rfl ?_
  refine C.icmpF 6 d10_3 rfl (by decide) ?_
  refine C.iloadN 7 d10_6 rfl rfl ?_
  refine C.getstatic 10 d10_7 rfl (tw 76) SH ?_
  refine C.icmpF 13 d10_10 rfl (by decide) ?_
  refine C.getstatic 16 d10_13 rfl (tw 78) SC ?_
  refine C.iloadN 17 d10_16 rfl rfl ?_
  refine C.sipush 20 (128 : Int32) d10_17 rfl rfl ?_
  refine C.iadd 21 d10_20 rfl ?_
  refine C.aaloadA 22 130 (.ref i2) d10_21 rfl rfl (AC.ext hE) (by decide) rfl e2 ?_
  exact C.retA (.object "java/lang/Integer") d10_22 rfl rfl rfl (by decide) (by decide) ⟨rfl, rfl⟩
set_option maxRecDepth 65536 in
set_option maxHeartbeats 40000000 in
theorem mx_10 (l : Launch) (Z : State) (a0' : Array Value) (hw : ∀ d ∈ tables_1, d.before a0' Z = true) (h : Heap)  :
    Con l Z (⟨"java/lang/Math", "max", "(II)I"⟩ : MethodName) jdk_29_method_65_code 2 (some .int) ⟨0, 0, 0, 0⟩ #[.int (10 : Int32), .int (1 : Int32)] h (Same (some (.int (10 : Int32))) h) := by
  refine Con.of (Ls := #[.val (.int (10 : Int32)), .val (.int (1 : Int32))]) hw pn16 (fun m => by first | (simp [entryFrame, mkF, argsToLocals, Value.category, maxLocals]; done) | rfl) fun W C => ?_
  refine C.kept fun hE => ?_
  have z0 : Z.heap.size ≤ h.size := hE.1
  refine C.iloadN 1 d16_0 rfl rfl ?_
  refine C.iloadN 2 d16_1 rfl rfl ?_
  refine C.icmpF 5 d16_2 rfl (by decide) ?_
  refine C.iloadN 6 d16_5 rfl rfl ?_
  refine C.goto 10 d16_6 rfl ?_
  exact C.retI .int d16_10 rfl (by simp) rfl (by decide) (by decide) ⟨rfl, rfl⟩
set_option maxRecDepth 65536 in
set_option maxHeartbeats 40000000 in
theorem gr_i (l : Launch) (Z : State) (a0' : Array Value) (hw : ∀ d ∈ tables_1, d.before a0' Z = true) (h : Heap) (a : Addr) (g : Z.heap.size ≤ a) (mc : Int32) (dd : Addr) (SD : Sta Z Z.heap "java/util/ArrayList" "DEFAULTCAPACITY_EMPTY_ELEMENTDATA" "[Ljava/lang/Object;" (.ref dd)) (AD : Al Z Z.heap dd (.object "java/lang/Object") []) (L : Li Z h a dd 0 mc) :
    Con l Z (⟨"java/util/ArrayList", "grow", "(I)[Ljava/lang/Object;"⟩ : MethodName) jdk_38_method_6_code 4 (some (.array (.object "java/lang/Object"))) ⟨1, 1, 10, 16⟩ #[.ref a, .int (1 : Int32)] h (fun v h' => ∃ b cA, v = some (.ref b) ∧ h.size ≤ b ∧ Keep h h' [a] ∧ Li Z h' a b 0 mc ∧ Ro Z h' b "java/lang/Object" cA [.null, .null, .null, .null, .null, .null, .null, .null, .null, .null] ∧ Ovr Z cA "java/lang/Object") := by
  refine Con.of (Ls := #[.val (.ref a), .val (.int (1 : Int32)), .unset, .unset]) hw pn15 (fun m => by first | (simp [entryFrame, mkF, argsToLocals, Value.category, maxLocals]; done) | rfl) fun W C => ?_
  refine C.kept fun hE => ?_
  have z0 : Z.heap.size ≤ h.size := hE.1
  refine C.aloadN 1 d15_0 rfl rfl rfl ?_
  refine C.getfield 4 d15_1 rfl (tw 31) Via.refl L.2.1 ?_
  refine C.arraylength 5 (0 : Int32) d15_4 rfl (AD.ext hE) rfl ?_
  refine C.istoreN 6 #[.val (.ref a), .val (.int (1 : Int32)), .val (.int (0 : Int32)), .unset] d15_5 rfl rfl ?_
  refine C.iloadN 7 d15_6 rfl rfl ?_
  refine C.ifF 10 d15_7 rfl (by decide) ?_
  refine C.aloadN 11 d15_10 rfl rfl rfl ?_
  refine C.getfield 14 d15_11 rfl (tw 31) Via.refl L.2.1 ?_
  refine C.getstatic 17 d15_14 rfl (tw 30) SD ?_
  refine C.acmpT 45 d15_17 rfl rfl rfl (by simp [XT.acmp]) ?_
  refine C.aloadN 46 d15_45 rfl rfl rfl ?_
  refine C.bipush 48 (10 : Int32) d15_46 rfl rfl ?_
  refine C.iloadN 49 d15_48 rfl rfl ?_
  refine C.callS 52 (as := [.int (10 : Int32), .int (1 : Int32)]) (rest := [.ref a]) (rm := ⟨0, 0, 0, 0⟩) 1 d15_49 rfl (tw 109) (tw 110) (tw 111) (tw 112) (by decide) (mx_10 l Z a0' hw h) pd16 rfl rfl (Nat.le_of_eq rfl) (by decide) (by decide) (by decide) (by decide) rfl ?_
  refine same_intro ?_
  show W h 0 0 52 #[.val (.ref a), .val (.int (1 : Int32)), .val (.int (0 : Int32)), .unset] [.int (10 : Int32), .ref a]
  refine C.anewarray 55 10 d15_52 rfl (tw 113) (tw 114) (by decide) (by decide) (by decide) (by decide) (by decide) ?_
  intro h1 cA1 E1 A1 O1
  obtain ⟨b1, g1⟩ : ∃ z, z = h.size := ⟨_, rfl⟩
  rw [← g1] at A1 ⊢
  have Ab1_1 : Ro Z h1 b1 "java/lang/Object" cA1 [.null, .null, .null, .null, .null, .null, .null, .null, .null, .null] := A1
  have z1 : Z.heap.size ≤ h1.size := Nat.le_trans z0 E1.1
  have zb1 : Z.heap.size ≤ b1 := by rw [g1]; exact z0
  show W h1 1 10 55 #[.val (.ref a), .val (.int (1 : Int32)), .val (.int (0 : Int32)), .unset] [.ref b1, .ref a]
  have nab : a ≠ b1 := by rw [g1]; exact Nat.ne_of_lt L.1.lt
  have L1 := L.keep ((Keep.refl h []).ext E1) nin0
  refine C.dupX1 56 d15_55 rfl rfl rfl ?_
  refine C.putfield 59 (v' := .ref b1) (.array (.object "java/lang/Object")) d15_56 rfl (tw 31) Via.refl L1.2.1 L1.1 (Or.inl (tw 32)) (tw 10) (by decide) rfl rfl g ?_
  intro h2 W2
  have z2 : Z.heap.size ≤ h2.size := by rw [W2.size]; exact z1
  have L2 : Li Z h2 a b1 0 mc := L1.setData hw W2
  have R2 := Ab1_1.keep (Keep.of_wr W2) (ninS nab.symm nin0)
  exact C.retA (.array (.object "java/lang/Object")) d15_59 rfl rfl rfl (by decide) (by decide) ⟨b1, _, rfl, Nat.le_of_eq g1.symm, ((Keep.refl h [a]).ext E1).wr W2 (Or.inl (List.mem_of_getElem? (i := 0) rfl)), L2, R2, O1⟩
set_option maxRecDepth 65536 in
set_option maxHeartbeats 40000000 in
theorem gr_0 (l : Launch) (Z : State) (a0' : Array Value) (hw : ∀ d ∈ tables_1, d.before a0' Z = true) (h : Heap) (a : Addr) (g : Z.heap.size ≤ a) (mc : Int32) (dd : Addr) (SD : Sta Z Z.heap "java/util/ArrayList" "DEFAULTCAPACITY_EMPTY_ELEMENTDATA" "[Ljava/lang/Object;" (.ref dd)) (AD : Al Z Z.heap dd (.object "java/lang/Object") []) (L : Li Z h a dd 0 mc) :
    Con l Z (⟨"java/util/ArrayList", "grow", "()[Ljava/lang/Object;"⟩ : MethodName) jdk_38_method_7_code 1 (some (.array (.object "java/lang/Object"))) ⟨2, 1, 10, 31⟩ #[.ref a] h (fun v h' => ∃ b cA, v = some (.ref b) ∧ h.size ≤ b ∧ Keep h h' [a] ∧ Li Z h' a b 0 mc ∧ Ro Z h' b "java/lang/Object" cA [.null, .null, .null, .null, .null, .null, .null, .null, .null, .null] ∧ Ovr Z cA "java/lang/Object") := by
  refine Con.of (Ls := #[.val (.ref a)]) hw pn14 (fun m => by first | (simp [entryFrame, mkF, argsToLocals, Value.category, maxLocals]; done) | rfl) fun W C => ?_
  refine C.kept fun hE => ?_
  have z0 : Z.heap.size ≤ h.size := hE.1
  refine C.aloadN 1 d14_0 rfl rfl rfl ?_
  refine C.aloadN 2 d14_1 rfl rfl rfl ?_
  refine C.getfield 5 d14_2 rfl (tw 55) Via.refl L.2.2.1 ?_
  refine C.iconst 6 (1 : Int32) d14_5 rfl rfl ?_
  refine C.iadd 7 d14_6 rfl ?_
  show W h 0 0 7 #[.val (.ref a)] [.int (1 : Int32), .ref a]
  refine C.callP 10 (as := [.int (1 : Int32)]) (rest := []) (rm := ⟨1, 1, 10, 16⟩) 0 d14_7 rfl (tw 104) (tw 107) (tw 106) (tw 105) (tw 11) (tw 108) (by decide) L.1 (gr_i l Z a0' hw h a g mc dd SD AD L) pd15 rfl rfl (Nat.le_of_eq rfl) (by decide) (by decide) (by decide) (by decide) rfl ?_
  rintro v h1 ⟨b, cA, rfl, gb, K1, L1, R1, O1⟩
  show W h1 1 10 10 #[.val (.ref a)] [.ref b]
  exact C.retA (.array (.object "java/lang/Object")) d14_10 rfl rfl rfl (by decide) (by decide) ⟨b, cA, rfl, gb, K1, L1, R1, O1⟩
set_option maxRecDepth 65536 in
set_option maxHeartbeats 40000000 in
theorem ah_g (l : Launch) (Z : State) (a0' : Array Value) (hw : ∀ d ∈ tables_1, d.before a0' Z = true) (h : Heap) (a : Addr) (g : Z.heap.size ≤ a) (mc : Int32) (dd : Addr) (SD : Sta Z Z.heap "java/util/ArrayList" "DEFAULTCAPACITY_EMPTY_ELEMENTDATA" "[Ljava/lang/Object;" (.ref dd)) (AD : Al Z Z.heap dd (.object "java/lang/Object") []) (L : Li Z h a dd 0 mc) (x : Addr) (EX : Exa Z Z.heap x "java/lang/Integer") :
    Con l Z (⟨"java/util/ArrayList", "add", "(Ljava/lang/Object;[Ljava/lang/Object;I)V"⟩ : MethodName) jdk_38_method_24_code 4 none ⟨3, 1, 10, 43⟩ #[.ref a, .ref x, .ref dd, .int (0 : Int32)] h (fun v h' => ∃ b cA, v = none ∧ Z.heap.size ≤ b ∧ Keep h h' [a] ∧ Li Z h' a b 1 mc ∧ Ro Z h' b "java/lang/Object" cA [.ref x, .null, .null, .null, .null, .null, .null, .null, .null, .null] ∧ Ovr Z cA "java/lang/Object") := by
  refine Con.of (Ls := #[.val (.ref a), .val (.ref x), .val (.ref dd), .val (.int (0 : Int32))]) hw pn13 (fun m => by first | (simp [entryFrame, mkF, argsToLocals, Value.category, maxLocals]; done) | rfl) fun W C => ?_
  refine C.kept fun hE => ?_
  have z0 : Z.heap.size ≤ h.size := hE.1
  refine C.iloadN 1 d13_0 rfl rfl ?_
  refine C.aloadN 2 d13_1 rfl rfl rfl ?_
  refine C.arraylength 3 (0 : Int32) d13_2 rfl (AD.ext hE) rfl ?_
  refine C.icmpF 6 d13_3 rfl (by decide) ?_
  refine C.aloadN 7 d13_6 rfl rfl rfl ?_
  refine C.callP 10 (as := []) (rest := []) (rm := ⟨2, 1, 10, 31⟩) 0 d13_7 rfl (tw 99) (tw 102) (tw 101) (tw 100) (tw 11) (tw 103) (by decide) L.1 (gr_0 l Z a0' hw h a g mc dd SD AD L) pd14 rfl rfl (Nat.le_of_eq rfl) (by decide) (by decide) (by decide) (by decide) rfl ?_
  rintro v h1 ⟨b, cA, rfl, gb, K1, L1, R1, O1⟩
  have z1 : Z.heap.size ≤ h1.size := Nat.le_trans z0 K1.1
  have zb : Z.heap.size ≤ b := Nat.le_trans z0 gb
  have nab : a ≠ b := Nat.ne_of_lt (Nat.lt_of_lt_of_le L.1.lt gb)
  show W h1 1 10 10 #[.val (.ref a), .val (.ref x), .val (.ref dd), .val (.int (0 : Int32))] [.ref b]
  refine C.astoreN 11 #[.val (.ref a), .val (.ref x), .val (.ref b), .val (.int (0 : Int32))] d13_10 rfl rfl rfl ?_
  refine C.aloadN 12 d13_11 rfl rfl rfl ?_
  refine C.iloadN 13 d13_12 rfl rfl ?_
  refine C.aloadN 14 d13_13 rfl rfl rfl ?_
  refine C.kept fun hE => ?_
  refine C.aastore 15 0 d13_14 rfl R1 O1 (Ins.of_exa (EX.ext hE) (hw _ (tw 115))) zb (by decide) rfl (Nat.le_of_ble_eq_true rfl) ?_
  intro h2 W2 A2
  have Ab_2 : Ro Z h2 b "java/lang/Object" cA [.ref x, .null, .null, .null, .null, .null, .null, .null, .null, .null] := A2
  have z2 : Z.heap.size ≤ h2.size := by rw [W2.size]; exact z1
  have L2 := L1.keep (Keep.of_wr W2) (ninS nab nin0)
  refine C.aloadN 16 d13_15 rfl rfl rfl ?_
  refine C.iloadN 17 d13_16 rfl rfl ?_
  refine C.iconst 18 (1 : Int32) d13_17 rfl rfl ?_
  refine C.iadd 19 d13_18 rfl ?_
  refine C.putfield 22 (v' := .int (1 : Int32)) .int d13_19 rfl (tw 55) Via.refl L2.2.2.1 L2.1 (Or.inl (tw 56)) (tw 10) (by decide) rfl rfl g ?_
  intro h3 W3
  have z3 : Z.heap.size ≤ h3.size := by rw [W3.size]; exact z2
  have L3 : Li Z h3 a b 1 mc := L2.setSize hw W3
  have R3 := Ab_2.keep (Keep.of_wr W3) (ninS nab.symm nin0)
  exact C.ret0 d13_22 rfl (by decide) (by decide) ⟨b, cA, rfl, zb, (K1.wr W2 (Or.inr (Nat.le_trans (Nat.le_refl _) gb))).wr W3 (Or.inl (List.mem_of_getElem? (i := 0) rfl)), L3, R3, O1⟩
set_option maxRecDepth 65536 in
set_option maxHeartbeats 40000000 in
theorem ah_r (l : Launch) (Z : State) (a0' : Array Value) (hw : ∀ d ∈ tables_1, d.before a0' Z = true) (h : Heap) (a : Addr) (g : Z.heap.size ≤ a) (mc : Int32) (b : Addr) (zb : Z.heap.size ≤ b) (cA : ClassId) (y : Addr) (L : Li Z h a b 1 mc) (R1 : Ro Z h b "java/lang/Object" cA [.ref y, .null, .null, .null, .null, .null, .null, .null, .null, .null]) (O1 : Ovr Z cA "java/lang/Object") (x : Addr) (EX : Exa Z Z.heap x "java/lang/Integer") (nab : a ≠ b) :
    Con l Z (⟨"java/util/ArrayList", "add", "(Ljava/lang/Object;[Ljava/lang/Object;I)V"⟩ : MethodName) jdk_38_method_24_code 4 none ⟨0, 0, 0, 0⟩ #[.ref a, .ref x, .ref b, .int (1 : Int32)] h (fun v h' => v = none ∧ Keep h h' [a, b] ∧ Li Z h' a b 2 mc) := by
  refine Con.of (Ls := #[.val (.ref a), .val (.ref x), .val (.ref b), .val (.int (1 : Int32))]) hw pn13 (fun m => by first | (simp [entryFrame, mkF, argsToLocals, Value.category, maxLocals]; done) | rfl) fun W C => ?_
  refine C.kept fun hE => ?_
  have z0 : Z.heap.size ≤ h.size := hE.1
  refine C.iloadN 1 d13_0 rfl rfl ?_
  refine C.aloadN 2 d13_1 rfl rfl rfl ?_
  refine C.arraylength 3 (10 : Int32) d13_2 rfl R1.al rfl ?_
  refine C.icmpT 11 d13_3 rfl (by decide) ?_
  refine C.aloadN 12 d13_11 rfl rfl rfl ?_
  refine C.iloadN 13 d13_12 rfl rfl ?_
  refine C.aloadN 14 d13_13 rfl rfl rfl ?_
  refine C.kept fun hE => ?_
  refine C.aastore 15 1 d13_14 rfl R1 O1 (Ins.of_exa (EX.ext hE) (hw _ (tw 115))) zb (by decide) rfl (Nat.le_of_ble_eq_true rfl) ?_
  intro h1 W1 A1
  have Ab_1 : Ro Z h1 b "java/lang/Object" cA [.ref y, .ref x, .null, .null, .null, .null, .null, .null, .null, .null] := A1
  have z1 : Z.heap.size ≤ h1.size := by rw [W1.size]; exact z0
  have L2 := L.keep (Keep.of_wr W1) (ninS nab nin0)
  refine C.aloadN 16 d13_15 rfl rfl rfl ?_
  refine C.iloadN 17 d13_16 rfl rfl ?_
  refine C.iconst 18 (1 : Int32) d13_17 rfl rfl ?_
  refine C.iadd 19 d13_18 rfl ?_
  refine C.putfield 22 (v' := .int (2 : Int32)) .int d13_19 rfl (tw 55) Via.refl L2.2.2.1 L2.1 (Or.inl (tw 56)) (tw 10) (by decide) rfl rfl g ?_
  intro h2 W2
  have z2 : Z.heap.size ≤ h2.size := by rw [W2.size]; exact z1
  have L3 : Li Z h2 a b 2 mc := L2.setSize hw W2
  exact C.ret0 d13_22 rfl (by decide) (by decide) ⟨rfl, ((Keep.refl h [a, b]).wr W1 (Or.inl (List.mem_of_getElem? (i := 1) rfl))).wr W2 (Or.inl (List.mem_of_getElem? (i := 0) rfl)), L3⟩
set_option maxRecDepth 65536 in
set_option maxHeartbeats 40000000 in
theorem ad_g (l : Launch) (Z : State) (a0' : Array Value) (hw : ∀ d ∈ tables_1, d.before a0' Z = true) (h : Heap) (a : Addr) (g : Z.heap.size ≤ a) (mc : Int32) (dd : Addr) (SD : Sta Z Z.heap "java/util/ArrayList" "DEFAULTCAPACITY_EMPTY_ELEMENTDATA" "[Ljava/lang/Object;" (.ref dd)) (AD : Al Z Z.heap dd (.object "java/lang/Object") []) (L : Li Z h a dd 0 mc) (x : Addr) (EX : Exa Z Z.heap x "java/lang/Integer") :
    Con l Z (⟨"java/util/ArrayList", "add", "(Ljava/lang/Object;)Z"⟩ : MethodName) jdk_38_method_25_code 2 (some .boolean) ⟨4, 1, 10, 58⟩ #[.ref a, .ref x] h (fun v h' => ∃ b cA, v = some (.int 1) ∧ Z.heap.size ≤ b ∧ Keep h h' [a] ∧ Li Z h' a b 1 (mc + 1) ∧ Ro Z h' b "java/lang/Object" cA [.ref x, .null, .null, .null, .null, .null, .null, .null, .null, .null] ∧ Ovr Z cA "java/lang/Object") := by
  refine Con.of (Ls := #[.val (.ref a), .val (.ref x)]) hw pn12 (fun m => by first | (simp [entryFrame, mkF, argsToLocals, Value.category, maxLocals]; done) | rfl) fun W C => ?_
  refine C.kept fun hE => ?_
  have z0 : Z.heap.size ≤ h.size := hE.1
  refine C.aloadN 1 d12_0 rfl rfl rfl ?_
  refine C.dup 2 d12_1 rfl rfl ?_
  refine C.getfield 5 d12_2 rfl (tw 92) (Via.of (C.word (tw 93))) L.2.2.2 ?_
  refine C.iconst 6 (1 : Int32) d12_5 rfl rfl ?_
  refine C.iadd 7 d12_6 rfl ?_
  refine C.putfield 10 (v' := .int (mc + (1 : Int32))) .int d12_7 rfl (tw 92) (Via.of (C.word (tw 93))) L.2.2.2 L.1 (Or.inl (tw 29)) (tw 10) (by decide) rfl rfl g ?_
  intro h1 W1
  have z1 : Z.heap.size ≤ h1.size := by rw [W1.size]; exact z0
  have L1 : Li Z h1 a dd 0 (mc + 1) := L.setMod hw W1
  refine C.aloadN 11 d12_10 rfl rfl rfl ?_
  refine C.aloadN 12 d12_11 rfl rfl rfl ?_
  refine C.aloadN 13 d12_12 rfl rfl rfl ?_
  refine C.getfield 16 d12_13 rfl (tw 31) Via.refl L1.2.1 ?_
  refine C.aloadN 17 d12_16 rfl rfl rfl ?_
  refine C.getfield 20 d12_17 rfl (tw 55) Via.refl L1.2.2.1 ?_
  refine C.callP 23 (as := [.ref x, .ref dd, .int (0 : Int32)]) (rest := []) (rm := ⟨3, 1, 10, 43⟩) 0 d12_20 rfl (tw 94) (tw 97) (tw 96) (tw 95) (tw 11) (tw 98) (by decide) L1.1 (ah_g l Z a0' hw h1 a g (mc + 1) dd SD AD L1 x EX) pd13 rfl rfl (Nat.le_of_eq rfl) (by decide) (by decide) (by decide) (by decide) rfl ?_
  rintro v h2 ⟨b, cA, rfl, zb, K2, L2, R2, O2⟩
  show W h2 1 10 23 #[.val (.ref a), .val (.ref x)] []
  refine C.iconst 24 (1 : Int32) d12_23 rfl rfl ?_
  exact C.retI .boolean d12_24 rfl (by simp) rfl (by decide) (by decide) ⟨b, cA, rfl, zb, (Keep.of_wr W1).trans K2 (fun x hx => Or.inl hx), L2, R2, O2⟩
set_option maxRecDepth 65536 in
set_option maxHeartbeats 40000000 in
theorem ad_r (l : Launch) (Z : State) (a0' : Array Value) (hw : ∀ d ∈ tables_1, d.before a0' Z = true) (h : Heap) (a : Addr) (g : Z.heap.size ≤ a) (mc : Int32) (b : Addr) (zb : Z.heap.size ≤ b) (cA : ClassId) (y : Addr) (L : Li Z h a b 1 mc) (R1 : Ro Z h b "java/lang/Object" cA [.ref y, .null, .null, .null, .null, .null, .null, .null, .null, .null]) (O1 : Ovr Z cA "java/lang/Object") (x : Addr) (EX : Exa Z Z.heap x "java/lang/Integer") (nab : a ≠ b) :
    Con l Z (⟨"java/util/ArrayList", "add", "(Ljava/lang/Object;)Z"⟩ : MethodName) jdk_38_method_25_code 2 (some .boolean) ⟨1, 0, 0, 15⟩ #[.ref a, .ref x] h (fun v h' => v = some (.int 1) ∧ Keep h h' [a, b] ∧ Li Z h' a b 2 (mc + 1)) := by
  refine Con.of (Ls := #[.val (.ref a), .val (.ref x)]) hw pn12 (fun m => by first | (simp [entryFrame, mkF, argsToLocals, Value.category, maxLocals]; done) | rfl) fun W C => ?_
  refine C.kept fun hE => ?_
  have z0 : Z.heap.size ≤ h.size := hE.1
  refine C.aloadN 1 d12_0 rfl rfl rfl ?_
  refine C.dup 2 d12_1 rfl rfl ?_
  refine C.getfield 5 d12_2 rfl (tw 92) (Via.of (C.word (tw 93))) L.2.2.2 ?_
  refine C.iconst 6 (1 : Int32) d12_5 rfl rfl ?_
  refine C.iadd 7 d12_6 rfl ?_
  refine C.putfield 10 (v' := .int (mc + (1 : Int32))) .int d12_7 rfl (tw 92) (Via.of (C.word (tw 93))) L.2.2.2 L.1 (Or.inl (tw 29)) (tw 10) (by decide) rfl rfl g ?_
  intro h1 W1
  have z1 : Z.heap.size ≤ h1.size := by rw [W1.size]; exact z0
  have L1 : Li Z h1 a b 1 (mc + 1) := L.setMod hw W1
  have R2 := R1.keep (Keep.of_wr W1) (ninS nab.symm nin0)
  refine C.aloadN 11 d12_10 rfl rfl rfl ?_
  refine C.aloadN 12 d12_11 rfl rfl rfl ?_
  refine C.aloadN 13 d12_12 rfl rfl rfl ?_
  refine C.getfield 16 d12_13 rfl (tw 31) Via.refl L1.2.1 ?_
  refine C.aloadN 17 d12_16 rfl rfl rfl ?_
  refine C.getfield 20 d12_17 rfl (tw 55) Via.refl L1.2.2.1 ?_
  refine C.callP 23 (as := [.ref x, .ref b, .int (1 : Int32)]) (rest := []) (rm := ⟨0, 0, 0, 0⟩) 0 d12_20 rfl (tw 94) (tw 97) (tw 96) (tw 95) (tw 11) (tw 98) (by decide) L1.1 (ah_r l Z a0' hw h1 a g (mc + 1) b zb cA y L1 R2 O1 x EX nab) pd13 rfl rfl (Nat.le_of_eq rfl) (by decide) (by decide) (by decide) (by decide) rfl ?_
  rintro v h2 ⟨rfl, K2, L2⟩
  show W h2 0 0 23 #[.val (.ref a), .val (.ref x)] []
  refine C.iconst 24 (1 : Int32) d12_23 rfl rfl ?_
  exact C.retI .boolean d12_24 rfl (by simp) rfl (by decide) (by decide) ⟨rfl, ((Keep.refl h [a, b]).wr W1 (Or.inl (List.mem_of_getElem? (i := 0) rfl))).trans K2 (fun x hx => Or.inl hx), L2⟩
set_option maxRecDepth 65536 in
set_option maxHeartbeats 40000000 in
theorem ba_g (l : Launch) (Z : State) (a0' : Array Value) (hw : ∀ d ∈ tables_1, d.before a0' Z = true) (h : Heap) (a : Addr) (g : Z.heap.size ≤ a) (mc : Int32) (dd : Addr) (SD : Sta Z Z.heap "java/util/ArrayList" "DEFAULTCAPACITY_EMPTY_ELEMENTDATA" "[Ljava/lang/Object;" (.ref dd)) (AD : Al Z Z.heap dd (.object "java/lang/Object") []) (L : Li Z h a dd 0 mc) (x : Addr) (EX : Exa Z Z.heap x "java/lang/Integer") (b : Addr) (mx : Int32) (bud by' : Int64) (cl : Int32) (B : Bt Z h b a mx bud by' cl) :
    Con l Z (⟨"com/example/reserved_delivery/reserveddelivery/broker/Batch", "add", "(Ljava/lang/Object;)V"⟩ : MethodName) prog_9_method_3_code 2 none ⟨5, 1, 10, 71⟩ #[.ref b, .ref x] h (fun v h' => ∃ d cA, v = none ∧ Z.heap.size ≤ d ∧ Bt Z h' b a mx bud by' cl ∧ Li Z h' a d 1 (mc + 1) ∧ Ro Z h' d "java/lang/Object" cA [.ref x, .null, .null, .null, .null, .null, .null, .null, .null, .null] ∧ Ovr Z cA "java/lang/Object") := by
  refine Con.of (Ls := #[.val (.ref b), .val (.ref x)]) hw pn11 (fun m => by first | (simp [entryFrame, mkF, argsToLocals, Value.category, maxLocals]; done) | rfl) fun W C => ?_
  refine C.kept fun hE => ?_
  have z0 : Z.heap.size ≤ h.size := hE.1
  have nba : b ≠ a := ne_exa B.1 L.1 (by decide)
  refine C.aloadN 1 d11_0 rfl rfl rfl ?_
  refine C.getfield 4 d11_1 rfl (tw 33) Via.refl B.2.1 ?_
  refine C.aloadN 5 d11_4 rfl rfl rfl ?_
  refine C.callF 10 (as := [.ref x]) (rest := []) (rm := ⟨4, 1, 10, 58⟩) 0 d11_5 rfl (tw 84) (tw 85) (tw 86) (tw 87) (tw 88) (tw 89) (tw 90) (tw 53) rfl (tw 11) (tw 91) (by decide) L.1 (ad_g l Z a0' hw h a g mc dd SD AD L x EX) pd12 rfl rfl (Nat.le_of_eq rfl) (by decide) (by decide) (by decide) (by decide) rfl ?_
  rintro v h1 ⟨d, cA, rfl, zd, K1, L1, R1, O1⟩
  show W h1 1 10 10 #[.val (.ref b), .val (.ref x)] [.int (1 : Int32)]
  refine C.pop 11 d11_10 rfl rfl ?_
  exact C.ret0 d11_11 rfl (by decide) (by decide) ⟨d, cA, rfl, zd, B.keep K1 (ninS nba nin0), L1, R1, O1⟩
set_option maxRecDepth 65536 in
set_option maxHeartbeats 40000000 in
theorem ba_r (l : Launch) (Z : State) (a0' : Array Value) (hw : ∀ d ∈ tables_1, d.before a0' Z = true) (h : Heap) (a : Addr) (g : Z.heap.size ≤ a) (mc : Int32) (d : Addr) (zd : Z.heap.size ≤ d) (cA : ClassId) (y : Addr) (L : Li Z h a d 1 mc) (R1 : Ro Z h d "java/lang/Object" cA [.ref y, .null, .null, .null, .null, .null, .null, .null, .null, .null]) (O1 : Ovr Z cA "java/lang/Object") (x : Addr) (EX : Exa Z Z.heap x "java/lang/Integer") (b : Addr) (mx : Int32) (bud by' : Int64) (cl : Int32) (B : Bt Z h b a mx bud by' cl) (nad : a ≠ d) (nbd : b ≠ d) :
    Con l Z (⟨"com/example/reserved_delivery/reserveddelivery/broker/Batch", "add", "(Ljava/lang/Object;)V"⟩ : MethodName) prog_9_method_3_code 2 none ⟨2, 0, 0, 28⟩ #[.ref b, .ref x] h (fun v h' => v = none ∧ Bt Z h' b a mx bud by' cl ∧ Li Z h' a d 2 (mc + 1)) := by
  refine Con.of (Ls := #[.val (.ref b), .val (.ref x)]) hw pn11 (fun m => by first | (simp [entryFrame, mkF, argsToLocals, Value.category, maxLocals]; done) | rfl) fun W C => ?_
  refine C.kept fun hE => ?_
  have z0 : Z.heap.size ≤ h.size := hE.1
  have nba : b ≠ a := ne_exa B.1 L.1 (by decide)
  refine C.aloadN 1 d11_0 rfl rfl rfl ?_
  refine C.getfield 4 d11_1 rfl (tw 33) Via.refl B.2.1 ?_
  refine C.aloadN 5 d11_4 rfl rfl rfl ?_
  refine C.callF 10 (as := [.ref x]) (rest := []) (rm := ⟨1, 0, 0, 15⟩) 0 d11_5 rfl (tw 84) (tw 85) (tw 86) (tw 87) (tw 88) (tw 89) (tw 90) (tw 53) rfl (tw 11) (tw 91) (by decide) L.1 (ad_r l Z a0' hw h a g mc d zd cA y L R1 O1 x EX nad) pd12 rfl rfl (Nat.le_of_eq rfl) (by decide) (by decide) (by decide) (by decide) rfl ?_
  rintro v h1 ⟨rfl, K1, L1⟩
  show W h1 0 0 10 #[.val (.ref b), .val (.ref x)] [.int (1 : Int32)]
  refine C.pop 11 d11_10 rfl rfl ?_
  exact C.ret0 d11_11 rfl (by decide) (by decide) ⟨rfl, B.keep K1 (ninS nba (ninS nbd nin0)), L1⟩
theorem mx_ge {mx : Int32} (h0 : ¬ mx < 0) (a : ¬ (0 : Int32) = mx) : ¬ mx < 1 := by
  have e0 : (0 : Int32).toInt = 0 := rfl
  have e1 : (1 : Int32).toInt = 1 := rfl
  rw [Int32.lt_iff_toInt_lt, e0] at h0; rw [← Int32.toInt_inj, e0] at a; rw [Int32.lt_iff_toInt_lt, e1]; omega
theorem mx_ge2 {mx : Int32} (h0 : ¬ mx < 1) (a : ¬ (1 : Int32) = mx) : ¬ mx < 2 := by
  have e0 : (1 : Int32).toInt = 1 := rfl
  have e1 : (2 : Int32).toInt = 2 := rfl
  rw [Int32.lt_iff_toInt_lt, e0] at h0; rw [← Int32.toInt_inj, e0] at a; rw [Int32.lt_iff_toInt_lt, e1]; omega
theorem mx_ge3 {mx : Int32} (h0 : ¬ mx < 2) (a : ¬ (2 : Int32) = mx) : ¬ mx < 3 := by
  have e0 : (2 : Int32).toInt = 2 := rfl
  have e1 : (3 : Int32).toInt = 3 := rfl
  rw [Int32.lt_iff_toInt_lt, e0] at h0; rw [← Int32.toInt_inj, e0] at a; rw [Int32.lt_iff_toInt_lt, e1]; omega
theorem and7_ge (m : Int32) : ¬ (m &&& (7 : Int32)) < 0 := by
  have h1 := c_and m (7 : Int32) (by decide)
  have e0 : (0 : Int32).toInt = 0 := rfl
  rw [Int32.lt_iff_toInt_lt, e0]; omega
set_option maxRecDepth 65536 in
set_option maxHeartbeats 40000000 in
theorem law_con (l : Launch) (Z : State) (a0' : Array Value) (hw : ∀ d ∈ tables_1, d.before a0' Z = true) (m : Int32) (bud : Int64) (l1 l2 l3 : Int32) (dd : Addr) (SD : Sta Z Z.heap "java/util/ArrayList" "DEFAULTCAPACITY_EMPTY_ELEMENTDATA" "[Ljava/lang/Object;" (.ref dd)) (AD : Al Z Z.heap dd (.object "java/lang/Object") []) (SH : Sta Z Z.heap "java/lang/Integer$IntegerCache" "high" "I" (.int (127 : Int32))) (ca : Addr) (SC : Sta Z Z.heap "java/lang/Integer$IntegerCache" "cache" "[Ljava/lang/Integer;" (.ref ca)) (vs : List Value) (AC : Al Z Z.heap ca (.object "java/lang/Integer") vs) (i1 i2 : Addr) (e1 : vs[129]? = some (.ref i1)) (e2 : vs[130]? = some (.ref i2)) (EX1 : Exa Z Z.heap i1 "java/lang/Integer") (EX2 : Exa Z Z.heap i2 "java/lang/Integer") :
    Con l Z x code maxLocals ret room_1 #[.int m, .long bud, .int l1, .int l2, .int l3] Z.heap (fun v _ => v = some (.int 1)) := by
  refine Con.of (Ls := #[.val (.int m), .val (.long bud), .second, .val (.int l1), .val (.int l2), .val (.int l3), .unset, .unset, .unset, .unset, .unset, .unset, .unset, .unset, .unset, .unset, .unset, .unset, .unset, .unset, .unset]) hw pn0 (fun m => by first | (simp [entryFrame, mkF, argsToLocals, Value.category, maxLocals]; done) | rfl) fun W C => ?_
  have z0 : Z.heap.size ≤ Z.heap.size := Nat.le_refl _
  refine C.iloadN 1 at_0 rfl rfl ?_
  refine C.bipush 3 (7 : Int32) at_1 rfl rfl ?_
  refine C.iand 4 at_3 rfl ?_
  refine C.istore 6 #[.val (.int m), .val (.long bud), .second, .val (.int l1), .val (.int l2), .val (.int l3), .val (.int (m &&& (7 : Int32))), .unset, .unset, .unset, .unset, .unset, .unset, .unset, .unset, .unset, .unset, .unset, .unset, .unset, .unset] at_4 rfl rfl ?_
  have hm0 := and7_ge m
  generalize m &&& (7 : Int32) = mx at hm0 ⊢
  refine C.new 9 at_6 rfl (tw 0) (tw 1) (tw 2) (by decide) (by decide) ?_
  intro h1 E1 X1 D1
  obtain ⟨b1, g1⟩ : ∃ z, z = Z.heap.size := ⟨_, rfl⟩
  rw [← g1] at X1 ⊢
  rw [← g1] at D1
  have z1 : Z.heap.size ≤ h1.size := Nat.le_trans z0 E1.1
  have zb1 : Z.heap.size ≤ b1 := by rw [g1]; exact z0
  show W h1 1 5 9 #[.val (.int m), .val (.long bud), .second, .val (.int l1), .val (.int l2), .val (.int l3), .val (.int mx), .unset, .unset, .unset, .unset, .unset, .unset, .unset, .unset, .unset, .unset, .unset, .unset, .unset, .unset] [.ref b1]
  refine C.dup 10 at_9 rfl rfl ?_
  refine C.iload 12 at_10 rfl rfl ?_
  refine C.lloadN 13 at_12 rfl rfl ?_
  have N_items : Fld Z h1 b1 "com/example/reserved_delivery/reserveddelivery/broker/Batch" "items" "Ljava/util/List;" .null := D1 (Or.inr (hw _ (tw 34))) (ty := (.object "java/util/List")) (by decide)
  have N_max : Fld Z h1 b1 "com/example/reserved_delivery/reserveddelivery/broker/Batch" "max" "I" (.int (0 : Int32)) := D1 (Or.inr (hw _ (tw 36))) (ty := .int) (by decide)
  have N_budgetBytes : Fld Z h1 b1 "com/example/reserved_delivery/reserveddelivery/broker/Batch" "budgetBytes" "J" (.long (0 : Int64)) := D1 (Or.inr (hw _ (tw 38))) (ty := .long) (by decide)
  have N_bytes : Fld Z h1 b1 "com/example/reserved_delivery/reserveddelivery/broker/Batch" "bytes" "J" (.long (0 : Int64)) := D1 (Or.inl (hw _ (tw 71))) (ty := .long) (by decide)
  have N_closed : Fld Z h1 b1 "com/example/reserved_delivery/reserveddelivery/broker/Batch" "closed" "Z" (.int (0 : Int32)) := D1 (Or.inl (hw _ (tw 45))) (ty := .boolean) (by decide)
  refine C.callI 16 (a := b1) (as := [.int mx, .long bud]) (rest := [.ref b1]) (rm := ⟨4, 1, 3, 52⟩) 1 at_13 rfl rfl rfl (tw 3) (tw 4) (tw 2) (tw 5) (by decide) (bt_init l Z a0' hw h1 b1 zb1 mx bud dd SD X1 N_items N_max N_budgetBytes N_bytes N_closed) pd1 rfl rfl (Nat.le_of_eq rfl) (by decide) (by decide) (by decide) (by decide) rfl ?_
  rintro v h2 ⟨rfl, a, za, B, L⟩
  show W h2 2 8 16 #[.val (.int m), .val (.long bud), .second, .val (.int l1), .val (.int l2), .val (.int l3), .val (.int mx), .unset, .unset, .unset, .unset, .unset, .unset, .unset, .unset, .unset, .unset, .unset, .unset, .unset, .unset] [.ref b1]
  refine C.astore 18 #[.val (.int m), .val (.long bud), .second, .val (.int l1), .val (.int l2), .val (.int l3), .val (.int mx), .val (.ref b1), .unset, .unset, .unset, .unset, .unset, .unset, .unset, .unset, .unset, .unset, .unset, .unset, .unset] at_16 rfl rfl rfl ?_
  refine C.aload 20 at_18 rfl rfl rfl ?_
  refine C.iloadN 21 at_20 rfl rfl ?_
  by_cases hm : (0 : Int32) = mx
  · subst hm
    refine C.callV 24 (as := [.int l1]) (rest := []) (rm := ⟨1, 0, 0, 20⟩) 0 at_21 rfl (tw 39) (tw 40) (tw 42) nfSelf (tw 41) (tw 2) (tw 43) (by decide) B.1 (ac_max l Z a0' hw _ b1 a _ zb1 0 0 0 l1 bud 0 B L rfl) pd6 rfl rfl (Nat.le_of_eq rfl) (by decide) (by decide) (by decide) (by decide) rfl ?_
    rintro v h3 ⟨rfl, B, L, -⟩
    show W h3 2 8 24 #[.val (.int m), .val (.long bud), .second, .val (.int l1), .val (.int l2), .val (.int l3), .val (.int (0 : Int32)), .val (.ref b1), .unset, .unset, .unset, .unset, .unset, .unset, .unset, .unset, .unset, .unset, .unset, .unset, .unset] [.int (0 : Int32)]
    refine C.istore 26 #[.val (.int m), .val (.long bud), .second, .val (.int l1), .val (.int l2), .val (.int l3), .val (.int (0 : Int32)), .val (.ref b1), .val (.int (0 : Int32)), .unset, .unset, .unset, .unset, .unset, .unset, .unset, .unset, .unset, .unset, .unset, .unset] at_24 rfl rfl ?_
    refine C.iload 28 at_26 rfl rfl ?_
    refine C.ifT 40 at_28 rfl (by decide) ?_
    refine C.aload 42 at_40 rfl rfl rfl ?_
    refine C.callV 45 (as := []) (rest := []) (rm := ⟨0, 0, 0, 0⟩) 0 at_42 rfl (tw 57) (tw 58) (tw 60) nfSelf (tw 59) (tw 2) (tw 61) (by decide) B.1 (bt_closed l Z a0' hw h3 b1 a 0 bud _ (1 : Int32) B rfl) pd8 rfl rfl (Nat.le_of_eq rfl) (by decide) (by decide) (by decide) (by decide) rfl ?_
    refine same_intro ?_
    show W h3 2 8 45 #[.val (.int m), .val (.long bud), .second, .val (.int l1), .val (.int l2), .val (.int l3), .val (.int (0 : Int32)), .val (.ref b1), .val (.int (0 : Int32)), .unset, .unset, .unset, .unset, .unset, .unset, .unset, .unset, .unset, .unset, .unset, .unset] [.int (1 : Int32)]
    refine C.istore 47 #[.val (.int m), .val (.long bud), .second, .val (.int l1), .val (.int l2), .val (.int l3), .val (.int (0 : Int32)), .val (.ref b1), .val (.int (0 : Int32)), .val (.int (1 : Int32)), .unset, .unset, .unset, .unset, .unset, .unset, .unset, .unset, .unset, .unset, .unset] at_45 rfl rfl ?_
    refine C.aload 49 at_47 rfl rfl rfl ?_
    refine C.iload 51 at_49 rfl rfl ?_
    refine C.callV 54 (as := [.int l2]) (rest := []) (rm := ⟨1, 0, 0, 20⟩) 0 at_51 rfl (tw 39) (tw 40) (tw 42) nfSelf (tw 41) (tw 2) (tw 43) (by decide) B.1 (ac_shut l Z a0' hw _ b1 a _ zb1 0 0 0 l2 bud 0 B L) pd6 rfl rfl (Nat.le_of_eq rfl) (by decide) (by decide) (by decide) (by decide) rfl ?_
    rintro v h4 ⟨rfl, B, L, -⟩
    show W h4 2 8 54 #[.val (.int m), .val (.long bud), .second, .val (.int l1), .val (.int l2), .val (.int l3), .val (.int (0 : Int32)), .val (.ref b1), .val (.int (0 : Int32)), .val (.int (1 : Int32)), .unset, .unset, .unset, .unset, .unset, .unset, .unset, .unset, .unset, .unset, .unset] [.int (0 : Int32)]
    refine C.istore 56 #[.val (.int m), .val (.long bud), .second, .val (.int l1), .val (.int l2), .val (.int l3), .val (.int (0 : Int32)), .val (.ref b1), .val (.int (0 : Int32)), .val (.int (1 : Int32)), .val (.int (0 : Int32)), .unset, .unset, .unset, .unset, .unset, .unset, .unset, .unset, .unset, .unset] at_54 rfl rfl ?_
    refine C.iload 58 at_56 rfl rfl ?_
    refine C.ifT 70 at_58 rfl (by decide) ?_
    refine C.aload 72 at_70 rfl rfl rfl ?_
    refine C.callV 75 (as := []) (rest := []) (rm := ⟨0, 0, 0, 0⟩) 0 at_72 rfl (tw 57) (tw 58) (tw 60) nfSelf (tw 59) (tw 2) (tw 61) (by decide) B.1 (bt_closed l Z a0' hw h4 b1 a 0 bud _ (1 : Int32) B rfl) pd8 rfl rfl (Nat.le_of_eq rfl) (by decide) (by decide) (by decide) (by decide) rfl ?_
    refine same_intro ?_
    show W h4 2 8 75 #[.val (.int m), .val (.long bud), .second, .val (.int l1), .val (.int l2), .val (.int l3), .val (.int (0 : Int32)), .val (.ref b1), .val (.int (0 : Int32)), .val (.int (1 : Int32)), .val (.int (0 : Int32)), .unset, .unset, .unset, .unset, .unset, .unset, .unset, .unset, .unset, .unset] [.int (1 : Int32)]
    refine C.istore 77 #[.val (.int m), .val (.long bud), .second, .val (.int l1), .val (.int l2), .val (.int l3), .val (.int (0 : Int32)), .val (.ref b1), .val (.int (0 : Int32)), .val (.int (1 : Int32)), .val (.int (0 : Int32)), .val (.int (1 : Int32)), .unset, .unset, .unset, .unset, .unset, .unset, .unset, .unset, .unset] at_75 rfl rfl ?_
    refine C.aload 79 at_77 rfl rfl rfl ?_
    refine C.iload 81 at_79 rfl rfl ?_
    refine C.callV 84 (as := [.int l3]) (rest := []) (rm := ⟨1, 0, 0, 20⟩) 0 at_81 rfl (tw 39) (tw 40) (tw 42) nfSelf (tw 41) (tw 2) (tw 43) (by decide) B.1 (ac_shut l Z a0' hw _ b1 a _ zb1 0 0 0 l3 bud 0 B L) pd6 rfl rfl (Nat.le_of_eq rfl) (by decide) (by decide) (by decide) (by decide) rfl ?_
    rintro v h5 ⟨rfl, B, L, -⟩
    show W h5 2 8 84 #[.val (.int m), .val (.long bud), .second, .val (.int l1), .val (.int l2), .val (.int l3), .val (.int (0 : Int32)), .val (.ref b1), .val (.int (0 : Int32)), .val (.int (1 : Int32)), .val (.int (0 : Int32)), .val (.int (1 : Int32)), .unset, .unset, .unset, .unset, .unset, .unset, .unset, .unset, .unset] [.int (0 : Int32)]
    refine C.istore 86 #[.val (.int m), .val (.long bud), .second, .val (.int l1), .val (.int l2), .val (.int l3), .val (.int (0 : Int32)), .val (.ref b1), .val (.int (0 : Int32)), .val (.int (1 : Int32)), .val (.int (0 : Int32)), .val (.int (1 : Int32)), .val (.int (0 : Int32)), .unset, .unset, .unset, .unset, .unset, .unset, .unset, .unset] at_84 rfl rfl ?_
    refine C.aload 88 at_86 rfl rfl rfl ?_
    refine C.callV 91 (as := []) (rest := []) (rm := ⟨0, 0, 0, 0⟩) 0 at_88 rfl (tw 57) (tw 58) (tw 60) nfSelf (tw 59) (tw 2) (tw 61) (by decide) B.1 (bt_closed l Z a0' hw h5 b1 a 0 bud _ (1 : Int32) B rfl) pd8 rfl rfl (Nat.le_of_eq rfl) (by decide) (by decide) (by decide) (by decide) rfl ?_
    refine same_intro ?_
    show W h5 2 8 91 #[.val (.int m), .val (.long bud), .second, .val (.int l1), .val (.int l2), .val (.int l3), .val (.int (0 : Int32)), .val (.ref b1), .val (.int (0 : Int32)), .val (.int (1 : Int32)), .val (.int (0 : Int32)), .val (.int (1 : Int32)), .val (.int (0 : Int32)), .unset, .unset, .unset, .unset, .unset, .unset, .unset, .unset] [.int (1 : Int32)]
    refine C.istore 93 #[.val (.int m), .val (.long bud), .second, .val (.int l1), .val (.int l2), .val (.int l3), .val (.int (0 : Int32)), .val (.ref b1), .val (.int (0 : Int32)), .val (.int (1 : Int32)), .val (.int (0 : Int32)), .val (.int (1 : Int32)), .val (.int (0 : Int32)), .val (.int (1 : Int32)), .unset, .unset, .unset, .unset, .unset, .unset, .unset] at_91 rfl rfl ?_
    refine C.iloadN 94 at_93 rfl rfl ?_
    refine C.i2l 95 at_94 rfl ?_
    refine C.iload 97 at_95 rfl rfl ?_
    refine C.i2l 98 at_97 rfl ?_
    refine C.ladd 99 at_98 rfl ?_
    refine C.lstore 101 #[.val (.int m), .val (.long bud), .second, .val (.int l1), .val (.int l2), .val (.int l3), .val (.int (0 : Int32)), .val (.ref b1), .val (.int (0 : Int32)), .val (.int (1 : Int32)), .val (.int (0 : Int32)), .val (.int (1 : Int32)), .val (.int (0 : Int32)), .val (.int (1 : Int32)), .val (.long ((Int32.toInt64 l1) + (Int32.toInt64 l2))), .second, .unset, .unset, .unset, .unset, .unset] at_99 rfl rfl ?_
    refine C.lload 103 at_101 rfl rfl ?_
    refine C.iload 105 at_103 rfl rfl ?_
    refine C.i2l 106 at_105 rfl ?_
    refine C.ladd 107 at_106 rfl ?_
    refine C.lstore 109 #[.val (.int m), .val (.long bud), .second, .val (.int l1), .val (.int l2), .val (.int l3), .val (.int (0 : Int32)), .val (.ref b1), .val (.int (0 : Int32)), .val (.int (1 : Int32)), .val (.int (0 : Int32)), .val (.int (1 : Int32)), .val (.int (0 : Int32)), .val (.int (1 : Int32)), .val (.long ((Int32.toInt64 l1) + (Int32.toInt64 l2))), .second, .val (.long (((Int32.toInt64 l1) + (Int32.toInt64 l2)) + (Int32.toInt64 l3))), .second, .unset, .unset, .unset] at_107 rfl rfl ?_
    refine C.iload 111 at_109 rfl rfl ?_
    refine C.iconst 112 (1 : Int32) at_111 rfl rfl ?_
    refine C.icmpT 119 at_112 rfl (by decide) ?_
    refine C.iconst 120 (0 : Int32) at_119 rfl rfl ?_
    refine C.istore 122 #[.val (.int m), .val (.long bud), .second, .val (.int l1), .val (.int l2), .val (.int l3), .val (.int (0 : Int32)), .val (.ref b1), .val (.int (0 : Int32)), .val (.int (1 : Int32)), .val (.int (0 : Int32)), .val (.int (1 : Int32)), .val (.int (0 : Int32)), .val (.int (1 : Int32)), .val (.long ((Int32.toInt64 l1) + (Int32.toInt64 l2))), .second, .val (.long (((Int32.toInt64 l1) + (Int32.toInt64 l2)) + (Int32.toInt64 l3))), .second, .val (.int (0 : Int32)), .unset, .unset] at_120 rfl rfl ?_
    refine C.iload 124 at_122 rfl rfl ?_
    refine C.ifT 144 at_124 rfl (by decide) ?_
    refine C.iconst 145 (0 : Int32) at_144 rfl rfl ?_
    refine C.istore 147 #[.val (.int m), .val (.long bud), .second, .val (.int l1), .val (.int l2), .val (.int l3), .val (.int (0 : Int32)), .val (.ref b1), .val (.int (0 : Int32)), .val (.int (1 : Int32)), .val (.int (0 : Int32)), .val (.int (1 : Int32)), .val (.int (0 : Int32)), .val (.int (1 : Int32)), .val (.long ((Int32.toInt64 l1) + (Int32.toInt64 l2))), .second, .val (.long (((Int32.toInt64 l1) + (Int32.toInt64 l2)) + (Int32.toInt64 l3))), .second, .val (.int (0 : Int32)), .val (.int (0 : Int32)), .unset] at_145 rfl rfl ?_
    refine C.iload 149 at_147 rfl rfl ?_
    refine C.ifT 169 at_149 rfl (by decide) ?_
    refine C.iconst 170 (0 : Int32) at_169 rfl rfl ?_
    refine C.istore 172 #[.val (.int m), .val (.long bud), .second, .val (.int l1), .val (.int l2), .val (.int l3), .val (.int (0 : Int32)), .val (.ref b1), .val (.int (0 : Int32)), .val (.int (1 : Int32)), .val (.int (0 : Int32)), .val (.int (1 : Int32)), .val (.int (0 : Int32)), .val (.int (1 : Int32)), .val (.long ((Int32.toInt64 l1) + (Int32.toInt64 l2))), .second, .val (.long (((Int32.toInt64 l1) + (Int32.toInt64 l2)) + (Int32.toInt64 l3))), .second, .val (.int (0 : Int32)), .val (.int (0 : Int32)), .val (.int (0 : Int32))] at_170 rfl rfl ?_
    refine C.iload 174 at_172 rfl rfl ?_
    refine C.iload 176 at_174 rfl rfl ?_
    refine C.icmpF 179 at_176 rfl (by decide) ?_
    refine C.iload 181 at_179 rfl rfl ?_
    refine C.iload 183 at_181 rfl rfl ?_
    refine C.ifF 186 at_183 rfl (by decide) ?_
    refine C.iconst 187 (1 : Int32) at_186 rfl rfl ?_
    refine C.goto 191 at_187 rfl ?_
    refine C.icmpF 194 at_191 rfl (by decide) ?_
    refine C.iload 196 at_194 rfl rfl ?_
    refine C.iload 198 at_196 rfl rfl ?_
    refine C.icmpF 201 at_198 rfl (by decide) ?_
    refine C.iload 203 at_201 rfl rfl ?_
    refine C.iload 205 at_203 rfl rfl ?_
    refine C.ifF 208 at_205 rfl (by decide) ?_
    refine C.iconst 209 (1 : Int32) at_208 rfl rfl ?_
    refine C.goto 213 at_209 rfl ?_
    refine C.icmpF 216 at_213 rfl (by decide) ?_
    refine C.iload 218 at_216 rfl rfl ?_
    refine C.iload 220 at_218 rfl rfl ?_
    refine C.icmpF 223 at_220 rfl (by decide) ?_
    refine C.iload 225 at_223 rfl rfl ?_
    refine C.iload 227 at_225 rfl rfl ?_
    refine C.ifF 230 at_227 rfl (by decide) ?_
    refine C.iconst 231 (1 : Int32) at_230 rfl rfl ?_
    refine C.goto 235 at_231 rfl ?_
    refine C.icmpF 238 at_235 rfl (by decide) ?_
    refine C.iconst 239 (1 : Int32) at_238 rfl rfl ?_
    refine C.goto 243 at_239 rfl ?_
    exact C.retI .boolean at_243 rfl (by simp) rfl (by decide) (by decide) rfl
  · have n1 := mx_ge hm0 hm
    refine C.callV 24 (as := [.int l1]) (rest := []) (rm := ⟨1, 0, 0, 20⟩) 0 at_21 rfl (tw 39) (tw 40) (tw 42) nfSelf (tw 41) (tw 2) (tw 43) (by decide) B.1 (ac_empty l Z a0' hw _ b1 a _ zb1 mx 0 0 l1 bud 0 B L hm rfl) pd6 rfl rfl (Nat.le_of_eq rfl) (by decide) (by decide) (by decide) (by decide) rfl ?_
    rintro v h3 ⟨rfl, B, L, -⟩
    show W h3 2 8 24 #[.val (.int m), .val (.long bud), .second, .val (.int l1), .val (.int l2), .val (.int l3), .val (.int mx), .val (.ref b1), .unset, .unset, .unset, .unset, .unset, .unset, .unset, .unset, .unset, .unset, .unset, .unset, .unset] [.int (1 : Int32)]
    rw [Int64.zero_add] at B
    refine C.istore 26 #[.val (.int m), .val (.long bud), .second, .val (.int l1), .val (.int l2), .val (.int l3), .val (.int mx), .val (.ref b1), .val (.int (1 : Int32)), .unset, .unset, .unset, .unset, .unset, .unset, .unset, .unset, .unset, .unset, .unset, .unset] at_24 rfl rfl ?_
    refine C.iload 28 at_26 rfl rfl ?_
    refine C.ifF 31 at_28 rfl (by decide) ?_
    refine C.aload 33 at_31 rfl rfl rfl ?_
    refine C.iconst 34 (1 : Int32) at_33 rfl rfl ?_
    refine C.callS 37 (as := [.int (1 : Int32)]) (rest := [.ref b1]) (rm := ⟨0, 0, 0, 0⟩) 1 at_34 rfl (tw 72) (tw 73) (tw 74) (tw 75) (by decide) (vo_1 l Z a0' hw _ SH ca SC vs AC i1 e1) pd10 rfl rfl (Nat.le_of_eq rfl) (by decide) (by decide) (by decide) (by decide) rfl ?_
    refine same_intro ?_
    show W h3 2 8 37 #[.val (.int m), .val (.long bud), .second, .val (.int l1), .val (.int l2), .val (.int l3), .val (.int mx), .val (.ref b1), .val (.int (1 : Int32)), .unset, .unset, .unset, .unset, .unset, .unset, .unset, .unset, .unset, .unset, .unset, .unset] [.ref i1, .ref b1]
    refine C.callV 40 (as := [.ref i1]) (rest := []) (rm := ⟨5, 1, 10, 71⟩) 0 at_37 rfl (tw 79) (tw 80) (tw 82) nfSelf (tw 81) (tw 2) (tw 83) (by decide) B.1 (ba_g l Z a0' hw _ a za 0 dd SD AD L i1 EX1 b1 mx bud _ 0 B) pd11 rfl rfl (Nat.le_of_eq rfl) (by decide) (by decide) (by decide) (by decide) rfl ?_
    rintro v h4 ⟨d, cA, rfl, zd, B, L, R1, O1⟩
    show W h4 3 18 40 #[.val (.int m), .val (.long bud), .second, .val (.int l1), .val (.int l2), .val (.int l3), .val (.int mx), .val (.ref b1), .val (.int (1 : Int32)), .unset, .unset, .unset, .unset, .unset, .unset, .unset, .unset, .unset, .unset, .unset, .unset] []
    refine C.aload 42 at_40 rfl rfl rfl ?_
    refine C.callV 45 (as := []) (rest := []) (rm := ⟨0, 0, 0, 0⟩) 0 at_42 rfl (tw 57) (tw 58) (tw 60) nfSelf (tw 59) (tw 2) (tw 61) (by decide) B.1 (bt_closed l Z a0' hw h4 b1 a mx bud _ (0 : Int32) B rfl) pd8 rfl rfl (Nat.le_of_eq rfl) (by decide) (by decide) (by decide) (by decide) rfl ?_
    refine same_intro ?_
    show W h4 3 18 45 #[.val (.int m), .val (.long bud), .second, .val (.int l1), .val (.int l2), .val (.int l3), .val (.int mx), .val (.ref b1), .val (.int (1 : Int32)), .unset, .unset, .unset, .unset, .unset, .unset, .unset, .unset, .unset, .unset, .unset, .unset] [.int (0 : Int32)]
    refine C.istore 47 #[.val (.int m), .val (.long bud), .second, .val (.int l1), .val (.int l2), .val (.int l3), .val (.int mx), .val (.ref b1), .val (.int (1 : Int32)), .val (.int (0 : Int32)), .unset, .unset, .unset, .unset, .unset, .unset, .unset, .unset, .unset, .unset, .unset] at_45 rfl rfl ?_
    refine C.aload 49 at_47 rfl rfl rfl ?_
    refine C.iload 51 at_49 rfl rfl ?_
    clear hm
    by_cases hm : (1 : Int32) = mx
    · clear n1
      subst hm
      refine C.callV 54 (as := [.int l2]) (rest := []) (rm := ⟨1, 0, 0, 20⟩) 0 at_51 rfl (tw 39) (tw 40) (tw 42) nfSelf (tw 41) (tw 2) (tw 43) (by decide) B.1 (ac_max l Z a0' hw _ b1 a _ zb1 1 1 _ l2 bud _ B L rfl) pd6 rfl rfl (Nat.le_of_eq rfl) (by decide) (by decide) (by decide) (by decide) rfl ?_
      rintro v h5 ⟨rfl, B, L, -⟩
      show W h5 3 18 54 #[.val (.int m), .val (.long bud), .second, .val (.int l1), .val (.int l2), .val (.int l3), .val (.int (1 : Int32)), .val (.ref b1), .val (.int (1 : Int32)), .val (.int (0 : Int32)), .unset, .unset, .unset, .unset, .unset, .unset, .unset, .unset, .unset, .unset, .unset] [.int (0 : Int32)]
      refine C.istore 56 #[.val (.int m), .val (.long bud), .second, .val (.int l1), .val (.int l2), .val (.int l3), .val (.int (1 : Int32)), .val (.ref b1), .val (.int (1 : Int32)), .val (.int (0 : Int32)), .val (.int (0 : Int32)), .unset, .unset, .unset, .unset, .unset, .unset, .unset, .unset, .unset, .unset] at_54 rfl rfl ?_
      refine C.iload 58 at_56 rfl rfl ?_
      refine C.ifT 70 at_58 rfl (by decide) ?_
      refine C.aload 72 at_70 rfl rfl rfl ?_
      refine C.callV 75 (as := []) (rest := []) (rm := ⟨0, 0, 0, 0⟩) 0 at_72 rfl (tw 57) (tw 58) (tw 60) nfSelf (tw 59) (tw 2) (tw 61) (by decide) B.1 (bt_closed l Z a0' hw h5 b1 a 1 bud _ (1 : Int32) B rfl) pd8 rfl rfl (Nat.le_of_eq rfl) (by decide) (by decide) (by decide) (by decide) rfl ?_
      refine same_intro ?_
      show W h5 3 18 75 #[.val (.int m), .val (.long bud), .second, .val (.int l1), .val (.int l2), .val (.int l3), .val (.int (1 : Int32)), .val (.ref b1), .val (.int (1 : Int32)), .val (.int (0 : Int32)), .val (.int (0 : Int32)), .unset, .unset, .unset, .unset, .unset, .unset, .unset, .unset, .unset, .unset] [.int (1 : Int32)]
      refine C.istore 77 #[.val (.int m), .val (.long bud), .second, .val (.int l1), .val (.int l2), .val (.int l3), .val (.int (1 : Int32)), .val (.ref b1), .val (.int (1 : Int32)), .val (.int (0 : Int32)), .val (.int (0 : Int32)), .val (.int (1 : Int32)), .unset, .unset, .unset, .unset, .unset, .unset, .unset, .unset, .unset] at_75 rfl rfl ?_
      refine C.aload 79 at_77 rfl rfl rfl ?_
      refine C.iload 81 at_79 rfl rfl ?_
      refine C.callV 84 (as := [.int l3]) (rest := []) (rm := ⟨1, 0, 0, 20⟩) 0 at_81 rfl (tw 39) (tw 40) (tw 42) nfSelf (tw 41) (tw 2) (tw 43) (by decide) B.1 (ac_shut l Z a0' hw _ b1 a _ zb1 1 1 _ l3 bud _ B L) pd6 rfl rfl (Nat.le_of_eq rfl) (by decide) (by decide) (by decide) (by decide) rfl ?_
      rintro v h6 ⟨rfl, B, L, -⟩
      show W h6 3 18 84 #[.val (.int m), .val (.long bud), .second, .val (.int l1), .val (.int l2), .val (.int l3), .val (.int (1 : Int32)), .val (.ref b1), .val (.int (1 : Int32)), .val (.int (0 : Int32)), .val (.int (0 : Int32)), .val (.int (1 : Int32)), .unset, .unset, .unset, .unset, .unset, .unset, .unset, .unset, .unset] [.int (0 : Int32)]
      refine C.istore 86 #[.val (.int m), .val (.long bud), .second, .val (.int l1), .val (.int l2), .val (.int l3), .val (.int (1 : Int32)), .val (.ref b1), .val (.int (1 : Int32)), .val (.int (0 : Int32)), .val (.int (0 : Int32)), .val (.int (1 : Int32)), .val (.int (0 : Int32)), .unset, .unset, .unset, .unset, .unset, .unset, .unset, .unset] at_84 rfl rfl ?_
      refine C.aload 88 at_86 rfl rfl rfl ?_
      refine C.callV 91 (as := []) (rest := []) (rm := ⟨0, 0, 0, 0⟩) 0 at_88 rfl (tw 57) (tw 58) (tw 60) nfSelf (tw 59) (tw 2) (tw 61) (by decide) B.1 (bt_closed l Z a0' hw h6 b1 a 1 bud _ (1 : Int32) B rfl) pd8 rfl rfl (Nat.le_of_eq rfl) (by decide) (by decide) (by decide) (by decide) rfl ?_
      refine same_intro ?_
      show W h6 3 18 91 #[.val (.int m), .val (.long bud), .second, .val (.int l1), .val (.int l2), .val (.int l3), .val (.int (1 : Int32)), .val (.ref b1), .val (.int (1 : Int32)), .val (.int (0 : Int32)), .val (.int (0 : Int32)), .val (.int (1 : Int32)), .val (.int (0 : Int32)), .unset, .unset, .unset, .unset, .unset, .unset, .unset, .unset] [.int (1 : Int32)]
      refine C.istore 93 #[.val (.int m), .val (.long bud), .second, .val (.int l1), .val (.int l2), .val (.int l3), .val (.int (1 : Int32)), .val (.ref b1), .val (.int (1 : Int32)), .val (.int (0 : Int32)), .val (.int (0 : Int32)), .val (.int (1 : Int32)), .val (.int (0 : Int32)), .val (.int (1 : Int32)), .unset, .unset, .unset, .unset, .unset, .unset, .unset] at_91 rfl rfl ?_
      refine C.iloadN 94 at_93 rfl rfl ?_
      refine C.i2l 95 at_94 rfl ?_
      refine C.iload 97 at_95 rfl rfl ?_
      refine C.i2l 98 at_97 rfl ?_
      refine C.ladd 99 at_98 rfl ?_
      refine C.lstore 101 #[.val (.int m), .val (.long bud), .second, .val (.int l1), .val (.int l2), .val (.int l3), .val (.int (1 : Int32)), .val (.ref b1), .val (.int (1 : Int32)), .val (.int (0 : Int32)), .val (.int (0 : Int32)), .val (.int (1 : Int32)), .val (.int (0 : Int32)), .val (.int (1 : Int32)), .val (.long ((Int32.toInt64 l1) + (Int32.toInt64 l2))), .second, .unset, .unset, .unset, .unset, .unset] at_99 rfl rfl ?_
      refine C.lload 103 at_101 rfl rfl ?_
      refine C.iload 105 at_103 rfl rfl ?_
      refine C.i2l 106 at_105 rfl ?_
      refine C.ladd 107 at_106 rfl ?_
      refine C.lstore 109 #[.val (.int m), .val (.long bud), .second, .val (.int l1), .val (.int l2), .val (.int l3), .val (.int (1 : Int32)), .val (.ref b1), .val (.int (1 : Int32)), .val (.int (0 : Int32)), .val (.int (0 : Int32)), .val (.int (1 : Int32)), .val (.int (0 : Int32)), .val (.int (1 : Int32)), .val (.long ((Int32.toInt64 l1) + (Int32.toInt64 l2))), .second, .val (.long (((Int32.toInt64 l1) + (Int32.toInt64 l2)) + (Int32.toInt64 l3))), .second, .unset, .unset, .unset] at_107 rfl rfl ?_
      refine C.iload 111 at_109 rfl rfl ?_
      refine C.iconst 112 (1 : Int32) at_111 rfl rfl ?_
      refine C.icmpF 115 at_112 rfl (by decide) ?_
      refine C.iconst 116 (1 : Int32) at_115 rfl rfl ?_
      refine C.goto 120 at_116 rfl ?_
      refine C.istore 122 #[.val (.int m), .val (.long bud), .second, .val (.int l1), .val (.int l2), .val (.int l3), .val (.int (1 : Int32)), .val (.ref b1), .val (.int (1 : Int32)), .val (.int (0 : Int32)), .val (.int (0 : Int32)), .val (.int (1 : Int32)), .val (.int (0 : Int32)), .val (.int (1 : Int32)), .val (.long ((Int32.toInt64 l1) + (Int32.toInt64 l2))), .second, .val (.long (((Int32.toInt64 l1) + (Int32.toInt64 l2)) + (Int32.toInt64 l3))), .second, .val (.int (1 : Int32)), .unset, .unset] at_120 rfl rfl ?_
      refine C.iload 124 at_122 rfl rfl ?_
      refine C.ifF 127 at_124 rfl (by decide) ?_
      refine C.iload 129 at_127 rfl rfl ?_
      refine C.iconst 130 (2 : Int32) at_129 rfl rfl ?_
      refine C.icmpT 144 at_130 rfl (by decide) ?_
      refine C.iconst 145 (0 : Int32) at_144 rfl rfl ?_
      refine C.istore 147 #[.val (.int m), .val (.long bud), .second, .val (.int l1), .val (.int l2), .val (.int l3), .val (.int (1 : Int32)), .val (.ref b1), .val (.int (1 : Int32)), .val (.int (0 : Int32)), .val (.int (0 : Int32)), .val (.int (1 : Int32)), .val (.int (0 : Int32)), .val (.int (1 : Int32)), .val (.long ((Int32.toInt64 l1) + (Int32.toInt64 l2))), .second, .val (.long (((Int32.toInt64 l1) + (Int32.toInt64 l2)) + (Int32.toInt64 l3))), .second, .val (.int (1 : Int32)), .val (.int (0 : Int32)), .unset] at_145 rfl rfl ?_
      refine C.iload 149 at_147 rfl rfl ?_
      refine C.ifT 169 at_149 rfl (by decide) ?_
      refine C.iconst 170 (0 : Int32) at_169 rfl rfl ?_
      refine C.istore 172 #[.val (.int m), .val (.long bud), .second, .val (.int l1), .val (.int l2), .val (.int l3), .val (.int (1 : Int32)), .val (.ref b1), .val (.int (1 : Int32)), .val (.int (0 : Int32)), .val (.int (0 : Int32)), .val (.int (1 : Int32)), .val (.int (0 : Int32)), .val (.int (1 : Int32)), .val (.long ((Int32.toInt64 l1) + (Int32.toInt64 l2))), .second, .val (.long (((Int32.toInt64 l1) + (Int32.toInt64 l2)) + (Int32.toInt64 l3))), .second, .val (.int (1 : Int32)), .val (.int (0 : Int32)), .val (.int (0 : Int32))] at_170 rfl rfl ?_
      refine C.iload 174 at_172 rfl rfl ?_
      refine C.iload 176 at_174 rfl rfl ?_
      refine C.icmpF 179 at_176 rfl (by decide) ?_
      refine C.iload 181 at_179 rfl rfl ?_
      refine C.iload 183 at_181 rfl rfl ?_
      refine C.ifT 190 at_183 rfl (by decide) ?_
      refine C.iconst 191 (0 : Int32) at_190 rfl rfl ?_
      refine C.icmpF 194 at_191 rfl (by decide) ?_
      refine C.iload 196 at_194 rfl rfl ?_
      refine C.iload 198 at_196 rfl rfl ?_
      refine C.icmpF 201 at_198 rfl (by decide) ?_
      refine C.iload 203 at_201 rfl rfl ?_
      refine C.iload 205 at_203 rfl rfl ?_
      refine C.ifF 208 at_205 rfl (by decide) ?_
      refine C.iconst 209 (1 : Int32) at_208 rfl rfl ?_
      refine C.goto 213 at_209 rfl ?_
      refine C.icmpF 216 at_213 rfl (by decide) ?_
      refine C.iload 218 at_216 rfl rfl ?_
      refine C.iload 220 at_218 rfl rfl ?_
      refine C.icmpF 223 at_220 rfl (by decide) ?_
      refine C.iload 225 at_223 rfl rfl ?_
      refine C.iload 227 at_225 rfl rfl ?_
      refine C.ifF 230 at_227 rfl (by decide) ?_
      refine C.iconst 231 (1 : Int32) at_230 rfl rfl ?_
      refine C.goto 235 at_231 rfl ?_
      refine C.icmpF 238 at_235 rfl (by decide) ?_
      refine C.iconst 239 (1 : Int32) at_238 rfl rfl ?_
      refine C.goto 243 at_239 rfl ?_
      exact C.retI .boolean at_243 rfl (by simp) rfl (by decide) (by decide) rfl
    · have n2 := mx_ge2 n1 hm
      by_cases q2 : (0 : Int32) < XT.cmpL (l1.toInt64 + l2.toInt64) bud
      · refine C.callV 54 (as := [.int l2]) (rest := []) (rm := ⟨1, 0, 0, 20⟩) 0 at_51 rfl (tw 39) (tw 40) (tw 42) nfSelf (tw 41) (tw 2) (tw 43) (by decide) B.1 (ac_over l Z a0' hw _ b1 a _ zb1 mx 1 _ l2 bud _ B L hm (by decide) ((if0 _ _).trans (tlt q2).2.2.2)) pd6 rfl rfl (Nat.le_of_eq rfl) (by decide) (by decide) (by decide) (by decide) rfl ?_
        rintro v h5 ⟨rfl, B, L, -⟩
        show W h5 3 18 54 #[.val (.int m), .val (.long bud), .second, .val (.int l1), .val (.int l2), .val (.int l3), .val (.int mx), .val (.ref b1), .val (.int (1 : Int32)), .val (.int (0 : Int32)), .unset, .unset, .unset, .unset, .unset, .unset, .unset, .unset, .unset, .unset, .unset] [.int (0 : Int32)]
        refine C.istore 56 #[.val (.int m), .val (.long bud), .second, .val (.int l1), .val (.int l2), .val (.int l3), .val (.int mx), .val (.ref b1), .val (.int (1 : Int32)), .val (.int (0 : Int32)), .val (.int (0 : Int32)), .unset, .unset, .unset, .unset, .unset, .unset, .unset, .unset, .unset, .unset] at_54 rfl rfl ?_
        refine C.iload 58 at_56 rfl rfl ?_
        refine C.ifT 70 at_58 rfl (by decide) ?_
        refine C.aload 72 at_70 rfl rfl rfl ?_
        refine C.callV 75 (as := []) (rest := []) (rm := ⟨0, 0, 0, 0⟩) 0 at_72 rfl (tw 57) (tw 58) (tw 60) nfSelf (tw 59) (tw 2) (tw 61) (by decide) B.1 (bt_closed l Z a0' hw h5 b1 a mx bud _ (1 : Int32) B rfl) pd8 rfl rfl (Nat.le_of_eq rfl) (by decide) (by decide) (by decide) (by decide) rfl ?_
        refine same_intro ?_
        show W h5 3 18 75 #[.val (.int m), .val (.long bud), .second, .val (.int l1), .val (.int l2), .val (.int l3), .val (.int mx), .val (.ref b1), .val (.int (1 : Int32)), .val (.int (0 : Int32)), .val (.int (0 : Int32)), .unset, .unset, .unset, .unset, .unset, .unset, .unset, .unset, .unset, .unset] [.int (1 : Int32)]
        refine C.istore 77 #[.val (.int m), .val (.long bud), .second, .val (.int l1), .val (.int l2), .val (.int l3), .val (.int mx), .val (.ref b1), .val (.int (1 : Int32)), .val (.int (0 : Int32)), .val (.int (0 : Int32)), .val (.int (1 : Int32)), .unset, .unset, .unset, .unset, .unset, .unset, .unset, .unset, .unset] at_75 rfl rfl ?_
        refine C.aload 79 at_77 rfl rfl rfl ?_
        refine C.iload 81 at_79 rfl rfl ?_
        refine C.callV 84 (as := [.int l3]) (rest := []) (rm := ⟨1, 0, 0, 20⟩) 0 at_81 rfl (tw 39) (tw 40) (tw 42) nfSelf (tw 41) (tw 2) (tw 43) (by decide) B.1 (ac_shut l Z a0' hw _ b1 a _ zb1 mx 1 _ l3 bud _ B L) pd6 rfl rfl (Nat.le_of_eq rfl) (by decide) (by decide) (by decide) (by decide) rfl ?_
        rintro v h6 ⟨rfl, B, L, -⟩
        show W h6 3 18 84 #[.val (.int m), .val (.long bud), .second, .val (.int l1), .val (.int l2), .val (.int l3), .val (.int mx), .val (.ref b1), .val (.int (1 : Int32)), .val (.int (0 : Int32)), .val (.int (0 : Int32)), .val (.int (1 : Int32)), .unset, .unset, .unset, .unset, .unset, .unset, .unset, .unset, .unset] [.int (0 : Int32)]
        refine C.istore 86 #[.val (.int m), .val (.long bud), .second, .val (.int l1), .val (.int l2), .val (.int l3), .val (.int mx), .val (.ref b1), .val (.int (1 : Int32)), .val (.int (0 : Int32)), .val (.int (0 : Int32)), .val (.int (1 : Int32)), .val (.int (0 : Int32)), .unset, .unset, .unset, .unset, .unset, .unset, .unset, .unset] at_84 rfl rfl ?_
        refine C.aload 88 at_86 rfl rfl rfl ?_
        refine C.callV 91 (as := []) (rest := []) (rm := ⟨0, 0, 0, 0⟩) 0 at_88 rfl (tw 57) (tw 58) (tw 60) nfSelf (tw 59) (tw 2) (tw 61) (by decide) B.1 (bt_closed l Z a0' hw h6 b1 a mx bud _ (1 : Int32) B rfl) pd8 rfl rfl (Nat.le_of_eq rfl) (by decide) (by decide) (by decide) (by decide) rfl ?_
        refine same_intro ?_
        show W h6 3 18 91 #[.val (.int m), .val (.long bud), .second, .val (.int l1), .val (.int l2), .val (.int l3), .val (.int mx), .val (.ref b1), .val (.int (1 : Int32)), .val (.int (0 : Int32)), .val (.int (0 : Int32)), .val (.int (1 : Int32)), .val (.int (0 : Int32)), .unset, .unset, .unset, .unset, .unset, .unset, .unset, .unset] [.int (1 : Int32)]
        refine C.istore 93 #[.val (.int m), .val (.long bud), .second, .val (.int l1), .val (.int l2), .val (.int l3), .val (.int mx), .val (.ref b1), .val (.int (1 : Int32)), .val (.int (0 : Int32)), .val (.int (0 : Int32)), .val (.int (1 : Int32)), .val (.int (0 : Int32)), .val (.int (1 : Int32)), .unset, .unset, .unset, .unset, .unset, .unset, .unset] at_91 rfl rfl ?_
        refine C.iloadN 94 at_93 rfl rfl ?_
        refine C.i2l 95 at_94 rfl ?_
        refine C.iload 97 at_95 rfl rfl ?_
        refine C.i2l 98 at_97 rfl ?_
        refine C.ladd 99 at_98 rfl ?_
        refine C.lstore 101 #[.val (.int m), .val (.long bud), .second, .val (.int l1), .val (.int l2), .val (.int l3), .val (.int mx), .val (.ref b1), .val (.int (1 : Int32)), .val (.int (0 : Int32)), .val (.int (0 : Int32)), .val (.int (1 : Int32)), .val (.int (0 : Int32)), .val (.int (1 : Int32)), .val (.long ((Int32.toInt64 l1) + (Int32.toInt64 l2))), .second, .unset, .unset, .unset, .unset, .unset] at_99 rfl rfl ?_
        refine C.lload 103 at_101 rfl rfl ?_
        refine C.iload 105 at_103 rfl rfl ?_
        refine C.i2l 106 at_105 rfl ?_
        refine C.ladd 107 at_106 rfl ?_
        refine C.lstore 109 #[.val (.int m), .val (.long bud), .second, .val (.int l1), .val (.int l2), .val (.int l3), .val (.int mx), .val (.ref b1), .val (.int (1 : Int32)), .val (.int (0 : Int32)), .val (.int (0 : Int32)), .val (.int (1 : Int32)), .val (.int (0 : Int32)), .val (.int (1 : Int32)), .val (.long ((Int32.toInt64 l1) + (Int32.toInt64 l2))), .second, .val (.long (((Int32.toInt64 l1) + (Int32.toInt64 l2)) + (Int32.toInt64 l3))), .second, .unset, .unset, .unset] at_107 rfl rfl ?_
        refine C.iload 111 at_109 rfl rfl ?_
        refine C.iconst 112 (1 : Int32) at_111 rfl rfl ?_
        refine C.icmpF 115 at_112 rfl (flt n1).1 ?_
        refine C.iconst 116 (1 : Int32) at_115 rfl rfl ?_
        refine C.goto 120 at_116 rfl ?_
        refine C.istore 122 #[.val (.int m), .val (.long bud), .second, .val (.int l1), .val (.int l2), .val (.int l3), .val (.int mx), .val (.ref b1), .val (.int (1 : Int32)), .val (.int (0 : Int32)), .val (.int (0 : Int32)), .val (.int (1 : Int32)), .val (.int (0 : Int32)), .val (.int (1 : Int32)), .val (.long ((Int32.toInt64 l1) + (Int32.toInt64 l2))), .second, .val (.long (((Int32.toInt64 l1) + (Int32.toInt64 l2)) + (Int32.toInt64 l3))), .second, .val (.int (1 : Int32)), .unset, .unset] at_120 rfl rfl ?_
        refine C.iload 124 at_122 rfl rfl ?_
        refine C.ifF 127 at_124 rfl (by decide) ?_
        refine C.iload 129 at_127 rfl rfl ?_
        refine C.iconst 130 (2 : Int32) at_129 rfl rfl ?_
        refine C.icmpF 133 at_130 rfl (flt n2).1 ?_
        refine C.lload 135 at_133 rfl rfl ?_
        refine C.lloadN 136 at_135 rfl rfl ?_
        refine C.lcmp 137 at_136 rfl ?_
        refine C.ifT 144 at_137 rfl ((if0 _ _).trans (tlt q2).2.2.1) ?_
        refine C.iconst 145 (0 : Int32) at_144 rfl rfl ?_
        refine C.istore 147 #[.val (.int m), .val (.long bud), .second, .val (.int l1), .val (.int l2), .val (.int l3), .val (.int mx), .val (.ref b1), .val (.int (1 : Int32)), .val (.int (0 : Int32)), .val (.int (0 : Int32)), .val (.int (1 : Int32)), .val (.int (0 : Int32)), .val (.int (1 : Int32)), .val (.long ((Int32.toInt64 l1) + (Int32.toInt64 l2))), .second, .val (.long (((Int32.toInt64 l1) + (Int32.toInt64 l2)) + (Int32.toInt64 l3))), .second, .val (.int (1 : Int32)), .val (.int (0 : Int32)), .unset] at_145 rfl rfl ?_
        refine C.iload 149 at_147 rfl rfl ?_
        refine C.ifT 169 at_149 rfl (by decide) ?_
        refine C.iconst 170 (0 : Int32) at_169 rfl rfl ?_
        refine C.istore 172 #[.val (.int m), .val (.long bud), .second, .val (.int l1), .val (.int l2), .val (.int l3), .val (.int mx), .val (.ref b1), .val (.int (1 : Int32)), .val (.int (0 : Int32)), .val (.int (0 : Int32)), .val (.int (1 : Int32)), .val (.int (0 : Int32)), .val (.int (1 : Int32)), .val (.long ((Int32.toInt64 l1) + (Int32.toInt64 l2))), .second, .val (.long (((Int32.toInt64 l1) + (Int32.toInt64 l2)) + (Int32.toInt64 l3))), .second, .val (.int (1 : Int32)), .val (.int (0 : Int32)), .val (.int (0 : Int32))] at_170 rfl rfl ?_
        refine C.iload 174 at_172 rfl rfl ?_
        refine C.iload 176 at_174 rfl rfl ?_
        refine C.icmpF 179 at_176 rfl (by decide) ?_
        refine C.iload 181 at_179 rfl rfl ?_
        refine C.iload 183 at_181 rfl rfl ?_
        refine C.ifT 190 at_183 rfl (by decide) ?_
        refine C.iconst 191 (0 : Int32) at_190 rfl rfl ?_
        refine C.icmpF 194 at_191 rfl (by decide) ?_
        refine C.iload 196 at_194 rfl rfl ?_
        refine C.iload 198 at_196 rfl rfl ?_
        refine C.icmpF 201 at_198 rfl (by decide) ?_
        refine C.iload 203 at_201 rfl rfl ?_
        refine C.iload 205 at_203 rfl rfl ?_
        refine C.ifF 208 at_205 rfl (by decide) ?_
        refine C.iconst 209 (1 : Int32) at_208 rfl rfl ?_
        refine C.goto 213 at_209 rfl ?_
        refine C.icmpF 216 at_213 rfl (by decide) ?_
        refine C.iload 218 at_216 rfl rfl ?_
        refine C.iload 220 at_218 rfl rfl ?_
        refine C.icmpF 223 at_220 rfl (by decide) ?_
        refine C.iload 225 at_223 rfl rfl ?_
        refine C.iload 227 at_225 rfl rfl ?_
        refine C.ifF 230 at_227 rfl (by decide) ?_
        refine C.iconst 231 (1 : Int32) at_230 rfl rfl ?_
        refine C.goto 235 at_231 rfl ?_
        refine C.icmpF 238 at_235 rfl (by decide) ?_
        refine C.iconst 239 (1 : Int32) at_238 rfl rfl ?_
        refine C.goto 243 at_239 rfl ?_
        exact C.retI .boolean at_243 rfl (by simp) rfl (by decide) (by decide) rfl
      · have nad : a ≠ d := by obtain ⟨cl, A1, -⟩ := R1; exact ne_arr L.1 (hw _ (tw 10)) A1
        have nbd : b1 ≠ d := by obtain ⟨cl, A1, -⟩ := R1; exact ne_arr B.1 (hw _ (tw 1)) A1
        refine C.callV 54 (as := [.int l2]) (rest := []) (rm := ⟨1, 0, 0, 20⟩) 0 at_51 rfl (tw 39) (tw 40) (tw 42) nfSelf (tw 41) (tw 2) (tw 43) (by decide) B.1 (ac_fits l Z a0' hw _ b1 a _ zb1 mx 1 _ l2 bud _ B L hm (by decide) ((if0 _ _).trans (flt q2).2.2.2)) pd6 rfl rfl (Nat.le_of_eq rfl) (by decide) (by decide) (by decide) (by decide) rfl ?_
        rintro v h5 ⟨rfl, B, L, K⟩
        have R1 := R1.keep K (ninS nbd.symm nin0)
        show W h5 3 18 54 #[.val (.int m), .val (.long bud), .second, .val (.int l1), .val (.int l2), .val (.int l3), .val (.int mx), .val (.ref b1), .val (.int (1 : Int32)), .val (.int (0 : Int32)), .unset, .unset, .unset, .unset, .unset, .unset, .unset, .unset, .unset, .unset, .unset] [.int (1 : Int32)]
        refine C.istore 56 #[.val (.int m), .val (.long bud), .second, .val (.int l1), .val (.int l2), .val (.int l3), .val (.int mx), .val (.ref b1), .val (.int (1 : Int32)), .val (.int (0 : Int32)), .val (.int (1 : Int32)), .unset, .unset, .unset, .unset, .unset, .unset, .unset, .unset, .unset, .unset] at_54 rfl rfl ?_
        refine C.iload 58 at_56 rfl rfl ?_
        refine C.ifF 61 at_58 rfl (by decide) ?_
        refine C.aload 63 at_61 rfl rfl rfl ?_
        refine C.iconst 64 (2 : Int32) at_63 rfl rfl ?_
        refine C.callS 67 (as := [.int (2 : Int32)]) (rest := [.ref b1]) (rm := ⟨0, 0, 0, 0⟩) 1 at_64 rfl (tw 72) (tw 73) (tw 74) (tw 75) (by decide) (vo_2 l Z a0' hw _ SH ca SC vs AC i2 e2) pd10 rfl rfl (Nat.le_of_eq rfl) (by decide) (by decide) (by decide) (by decide) rfl ?_
        refine same_intro ?_
        show W h5 3 18 67 #[.val (.int m), .val (.long bud), .second, .val (.int l1), .val (.int l2), .val (.int l3), .val (.int mx), .val (.ref b1), .val (.int (1 : Int32)), .val (.int (0 : Int32)), .val (.int (1 : Int32)), .unset, .unset, .unset, .unset, .unset, .unset, .unset, .unset, .unset, .unset] [.ref i2, .ref b1]
        refine C.callV 70 (as := [.ref i2]) (rest := []) (rm := ⟨2, 0, 0, 28⟩) 0 at_67 rfl (tw 79) (tw 80) (tw 82) nfSelf (tw 81) (tw 2) (tw 83) (by decide) B.1 (ba_r l Z a0' hw _ a za _ d zd cA i1 L R1 O1 i2 EX2 b1 mx bud _ 0 B nad nbd) pd11 rfl rfl (Nat.le_of_eq rfl) (by decide) (by decide) (by decide) (by decide) rfl ?_
        rintro v h6 ⟨rfl, B, L⟩
        show W h6 3 18 70 #[.val (.int m), .val (.long bud), .second, .val (.int l1), .val (.int l2), .val (.int l3), .val (.int mx), .val (.ref b1), .val (.int (1 : Int32)), .val (.int (0 : Int32)), .val (.int (1 : Int32)), .unset, .unset, .unset, .unset, .unset, .unset, .unset, .unset, .unset, .unset] []
        refine C.aload 72 at_70 rfl rfl rfl ?_
        refine C.callV 75 (as := []) (rest := []) (rm := ⟨0, 0, 0, 0⟩) 0 at_72 rfl (tw 57) (tw 58) (tw 60) nfSelf (tw 59) (tw 2) (tw 61) (by decide) B.1 (bt_closed l Z a0' hw h6 b1 a mx bud _ (0 : Int32) B rfl) pd8 rfl rfl (Nat.le_of_eq rfl) (by decide) (by decide) (by decide) (by decide) rfl ?_
        refine same_intro ?_
        show W h6 3 18 75 #[.val (.int m), .val (.long bud), .second, .val (.int l1), .val (.int l2), .val (.int l3), .val (.int mx), .val (.ref b1), .val (.int (1 : Int32)), .val (.int (0 : Int32)), .val (.int (1 : Int32)), .unset, .unset, .unset, .unset, .unset, .unset, .unset, .unset, .unset, .unset] [.int (0 : Int32)]
        refine C.istore 77 #[.val (.int m), .val (.long bud), .second, .val (.int l1), .val (.int l2), .val (.int l3), .val (.int mx), .val (.ref b1), .val (.int (1 : Int32)), .val (.int (0 : Int32)), .val (.int (1 : Int32)), .val (.int (0 : Int32)), .unset, .unset, .unset, .unset, .unset, .unset, .unset, .unset, .unset] at_75 rfl rfl ?_
        refine C.aload 79 at_77 rfl rfl rfl ?_
        refine C.iload 81 at_79 rfl rfl ?_
        clear hm
        by_cases hm : (2 : Int32) = mx
        · clear n1 n2
          subst hm
          refine C.callV 84 (as := [.int l3]) (rest := []) (rm := ⟨1, 0, 0, 20⟩) 0 at_81 rfl (tw 39) (tw 40) (tw 42) nfSelf (tw 41) (tw 2) (tw 43) (by decide) B.1 (ac_max l Z a0' hw _ b1 a _ zb1 2 2 _ l3 bud _ B L rfl) pd6 rfl rfl (Nat.le_of_eq rfl) (by decide) (by decide) (by decide) (by decide) rfl ?_
          rintro v h7 ⟨rfl, B, L, -⟩
          show W h7 3 18 84 #[.val (.int m), .val (.long bud), .second, .val (.int l1), .val (.int l2), .val (.int l3), .val (.int (2 : Int32)), .val (.ref b1), .val (.int (1 : Int32)), .val (.int (0 : Int32)), .val (.int (1 : Int32)), .val (.int (0 : Int32)), .unset, .unset, .unset, .unset, .unset, .unset, .unset, .unset, .unset] [.int (0 : Int32)]
          refine C.istore 86 #[.val (.int m), .val (.long bud), .second, .val (.int l1), .val (.int l2), .val (.int l3), .val (.int (2 : Int32)), .val (.ref b1), .val (.int (1 : Int32)), .val (.int (0 : Int32)), .val (.int (1 : Int32)), .val (.int (0 : Int32)), .val (.int (0 : Int32)), .unset, .unset, .unset, .unset, .unset, .unset, .unset, .unset] at_84 rfl rfl ?_
          refine C.aload 88 at_86 rfl rfl rfl ?_
          refine C.callV 91 (as := []) (rest := []) (rm := ⟨0, 0, 0, 0⟩) 0 at_88 rfl (tw 57) (tw 58) (tw 60) nfSelf (tw 59) (tw 2) (tw 61) (by decide) B.1 (bt_closed l Z a0' hw h7 b1 a 2 bud _ (1 : Int32) B rfl) pd8 rfl rfl (Nat.le_of_eq rfl) (by decide) (by decide) (by decide) (by decide) rfl ?_
          refine same_intro ?_
          show W h7 3 18 91 #[.val (.int m), .val (.long bud), .second, .val (.int l1), .val (.int l2), .val (.int l3), .val (.int (2 : Int32)), .val (.ref b1), .val (.int (1 : Int32)), .val (.int (0 : Int32)), .val (.int (1 : Int32)), .val (.int (0 : Int32)), .val (.int (0 : Int32)), .unset, .unset, .unset, .unset, .unset, .unset, .unset, .unset] [.int (1 : Int32)]
          refine C.istore 93 #[.val (.int m), .val (.long bud), .second, .val (.int l1), .val (.int l2), .val (.int l3), .val (.int (2 : Int32)), .val (.ref b1), .val (.int (1 : Int32)), .val (.int (0 : Int32)), .val (.int (1 : Int32)), .val (.int (0 : Int32)), .val (.int (0 : Int32)), .val (.int (1 : Int32)), .unset, .unset, .unset, .unset, .unset, .unset, .unset] at_91 rfl rfl ?_
          refine C.iloadN 94 at_93 rfl rfl ?_
          refine C.i2l 95 at_94 rfl ?_
          refine C.iload 97 at_95 rfl rfl ?_
          refine C.i2l 98 at_97 rfl ?_
          refine C.ladd 99 at_98 rfl ?_
          refine C.lstore 101 #[.val (.int m), .val (.long bud), .second, .val (.int l1), .val (.int l2), .val (.int l3), .val (.int (2 : Int32)), .val (.ref b1), .val (.int (1 : Int32)), .val (.int (0 : Int32)), .val (.int (1 : Int32)), .val (.int (0 : Int32)), .val (.int (0 : Int32)), .val (.int (1 : Int32)), .val (.long ((Int32.toInt64 l1) + (Int32.toInt64 l2))), .second, .unset, .unset, .unset, .unset, .unset] at_99 rfl rfl ?_
          refine C.lload 103 at_101 rfl rfl ?_
          refine C.iload 105 at_103 rfl rfl ?_
          refine C.i2l 106 at_105 rfl ?_
          refine C.ladd 107 at_106 rfl ?_
          refine C.lstore 109 #[.val (.int m), .val (.long bud), .second, .val (.int l1), .val (.int l2), .val (.int l3), .val (.int (2 : Int32)), .val (.ref b1), .val (.int (1 : Int32)), .val (.int (0 : Int32)), .val (.int (1 : Int32)), .val (.int (0 : Int32)), .val (.int (0 : Int32)), .val (.int (1 : Int32)), .val (.long ((Int32.toInt64 l1) + (Int32.toInt64 l2))), .second, .val (.long (((Int32.toInt64 l1) + (Int32.toInt64 l2)) + (Int32.toInt64 l3))), .second, .unset, .unset, .unset] at_107 rfl rfl ?_
          refine C.iload 111 at_109 rfl rfl ?_
          refine C.iconst 112 (1 : Int32) at_111 rfl rfl ?_
          refine C.icmpF 115 at_112 rfl (by decide) ?_
          refine C.iconst 116 (1 : Int32) at_115 rfl rfl ?_
          refine C.goto 120 at_116 rfl ?_
          refine C.istore 122 #[.val (.int m), .val (.long bud), .second, .val (.int l1), .val (.int l2), .val (.int l3), .val (.int (2 : Int32)), .val (.ref b1), .val (.int (1 : Int32)), .val (.int (0 : Int32)), .val (.int (1 : Int32)), .val (.int (0 : Int32)), .val (.int (0 : Int32)), .val (.int (1 : Int32)), .val (.long ((Int32.toInt64 l1) + (Int32.toInt64 l2))), .second, .val (.long (((Int32.toInt64 l1) + (Int32.toInt64 l2)) + (Int32.toInt64 l3))), .second, .val (.int (1 : Int32)), .unset, .unset] at_120 rfl rfl ?_
          refine C.iload 124 at_122 rfl rfl ?_
          refine C.ifF 127 at_124 rfl (by decide) ?_
          refine C.iload 129 at_127 rfl rfl ?_
          refine C.iconst 130 (2 : Int32) at_129 rfl rfl ?_
          refine C.icmpF 133 at_130 rfl (by decide) ?_
          refine C.lload 135 at_133 rfl rfl ?_
          refine C.lloadN 136 at_135 rfl rfl ?_
          refine C.lcmp 137 at_136 rfl ?_
          refine C.ifF 140 at_137 rfl ((if0 _ _).trans (flt q2).2.2.1) ?_
          refine C.iconst 141 (1 : Int32) at_140 rfl rfl ?_
          refine C.goto 145 at_141 rfl ?_
          refine C.istore 147 #[.val (.int m), .val (.long bud), .second, .val (.int l1), .val (.int l2), .val (.int l3), .val (.int (2 : Int32)), .val (.ref b1), .val (.int (1 : Int32)), .val (.int (0 : Int32)), .val (.int (1 : Int32)), .val (.int (0 : Int32)), .val (.int (0 : Int32)), .val (.int (1 : Int32)), .val (.long ((Int32.toInt64 l1) + (Int32.toInt64 l2))), .second, .val (.long (((Int32.toInt64 l1) + (Int32.toInt64 l2)) + (Int32.toInt64 l3))), .second, .val (.int (1 : Int32)), .val (.int (1 : Int32)), .unset] at_145 rfl rfl ?_
          refine C.iload 149 at_147 rfl rfl ?_
          refine C.ifF 152 at_149 rfl (by decide) ?_
          refine C.iload 154 at_152 rfl rfl ?_
          refine C.iconst 155 (3 : Int32) at_154 rfl rfl ?_
          refine C.icmpT 169 at_155 rfl (by decide) ?_
          refine C.iconst 170 (0 : Int32) at_169 rfl rfl ?_
          refine C.istore 172 #[.val (.int m), .val (.long bud), .second, .val (.int l1), .val (.int l2), .val (.int l3), .val (.int (2 : Int32)), .val (.ref b1), .val (.int (1 : Int32)), .val (.int (0 : Int32)), .val (.int (1 : Int32)), .val (.int (0 : Int32)), .val (.int (0 : Int32)), .val (.int (1 : Int32)), .val (.long ((Int32.toInt64 l1) + (Int32.toInt64 l2))), .second, .val (.long (((Int32.toInt64 l1) + (Int32.toInt64 l2)) + (Int32.toInt64 l3))), .second, .val (.int (1 : Int32)), .val (.int (1 : Int32)), .val (.int (0 : Int32))] at_170 rfl rfl ?_
          refine C.iload 174 at_172 rfl rfl ?_
          refine C.iload 176 at_174 rfl rfl ?_
          refine C.icmpF 179 at_176 rfl (by decide) ?_
          refine C.iload 181 at_179 rfl rfl ?_
          refine C.iload 183 at_181 rfl rfl ?_
          refine C.ifT 190 at_183 rfl (by decide) ?_
          refine C.iconst 191 (0 : Int32) at_190 rfl rfl ?_
          refine C.icmpF 194 at_191 rfl (by decide) ?_
          refine C.iload 196 at_194 rfl rfl ?_
          refine C.iload 198 at_196 rfl rfl ?_
          refine C.icmpF 201 at_198 rfl (by decide) ?_
          refine C.iload 203 at_201 rfl rfl ?_
          refine C.iload 205 at_203 rfl rfl ?_
          refine C.ifT 212 at_205 rfl (by decide) ?_
          refine C.iconst 213 (0 : Int32) at_212 rfl rfl ?_
          refine C.icmpF 216 at_213 rfl (by decide) ?_
          refine C.iload 218 at_216 rfl rfl ?_
          refine C.iload 220 at_218 rfl rfl ?_
          refine C.icmpF 223 at_220 rfl (by decide) ?_
          refine C.iload 225 at_223 rfl rfl ?_
          refine C.iload 227 at_225 rfl rfl ?_
          refine C.ifF 230 at_227 rfl (by decide) ?_
          refine C.iconst 231 (1 : Int32) at_230 rfl rfl ?_
          refine C.goto 235 at_231 rfl ?_
          refine C.icmpF 238 at_235 rfl (by decide) ?_
          refine C.iconst 239 (1 : Int32) at_238 rfl rfl ?_
          refine C.goto 243 at_239 rfl ?_
          exact C.retI .boolean at_243 rfl (by simp) rfl (by decide) (by decide) rfl
        · have n3 := mx_ge3 n2 hm
          by_cases q3 : (0 : Int32) < XT.cmpL (l1.toInt64 + l2.toInt64 + l3.toInt64) bud
          · refine C.callV 84 (as := [.int l3]) (rest := []) (rm := ⟨1, 0, 0, 20⟩) 0 at_81 rfl (tw 39) (tw 40) (tw 42) nfSelf (tw 41) (tw 2) (tw 43) (by decide) B.1 (ac_over l Z a0' hw _ b1 a _ zb1 mx 2 _ l3 bud _ B L hm (by decide) ((if0 _ _).trans (tlt q3).2.2.2)) pd6 rfl rfl (Nat.le_of_eq rfl) (by decide) (by decide) (by decide) (by decide) rfl ?_
            rintro v h7 ⟨rfl, B, L, -⟩
            show W h7 3 18 84 #[.val (.int m), .val (.long bud), .second, .val (.int l1), .val (.int l2), .val (.int l3), .val (.int mx), .val (.ref b1), .val (.int (1 : Int32)), .val (.int (0 : Int32)), .val (.int (1 : Int32)), .val (.int (0 : Int32)), .unset, .unset, .unset, .unset, .unset, .unset, .unset, .unset, .unset] [.int (0 : Int32)]
            refine C.istore 86 #[.val (.int m), .val (.long bud), .second, .val (.int l1), .val (.int l2), .val (.int l3), .val (.int mx), .val (.ref b1), .val (.int (1 : Int32)), .val (.int (0 : Int32)), .val (.int (1 : Int32)), .val (.int (0 : Int32)), .val (.int (0 : Int32)), .unset, .unset, .unset, .unset, .unset, .unset, .unset, .unset] at_84 rfl rfl ?_
            refine C.aload 88 at_86 rfl rfl rfl ?_
            refine C.callV 91 (as := []) (rest := []) (rm := ⟨0, 0, 0, 0⟩) 0 at_88 rfl (tw 57) (tw 58) (tw 60) nfSelf (tw 59) (tw 2) (tw 61) (by decide) B.1 (bt_closed l Z a0' hw h7 b1 a mx bud _ (1 : Int32) B rfl) pd8 rfl rfl (Nat.le_of_eq rfl) (by decide) (by decide) (by decide) (by decide) rfl ?_
            refine same_intro ?_
            show W h7 3 18 91 #[.val (.int m), .val (.long bud), .second, .val (.int l1), .val (.int l2), .val (.int l3), .val (.int mx), .val (.ref b1), .val (.int (1 : Int32)), .val (.int (0 : Int32)), .val (.int (1 : Int32)), .val (.int (0 : Int32)), .val (.int (0 : Int32)), .unset, .unset, .unset, .unset, .unset, .unset, .unset, .unset] [.int (1 : Int32)]
            refine C.istore 93 #[.val (.int m), .val (.long bud), .second, .val (.int l1), .val (.int l2), .val (.int l3), .val (.int mx), .val (.ref b1), .val (.int (1 : Int32)), .val (.int (0 : Int32)), .val (.int (1 : Int32)), .val (.int (0 : Int32)), .val (.int (0 : Int32)), .val (.int (1 : Int32)), .unset, .unset, .unset, .unset, .unset, .unset, .unset] at_91 rfl rfl ?_
            refine C.iloadN 94 at_93 rfl rfl ?_
            refine C.i2l 95 at_94 rfl ?_
            refine C.iload 97 at_95 rfl rfl ?_
            refine C.i2l 98 at_97 rfl ?_
            refine C.ladd 99 at_98 rfl ?_
            refine C.lstore 101 #[.val (.int m), .val (.long bud), .second, .val (.int l1), .val (.int l2), .val (.int l3), .val (.int mx), .val (.ref b1), .val (.int (1 : Int32)), .val (.int (0 : Int32)), .val (.int (1 : Int32)), .val (.int (0 : Int32)), .val (.int (0 : Int32)), .val (.int (1 : Int32)), .val (.long ((Int32.toInt64 l1) + (Int32.toInt64 l2))), .second, .unset, .unset, .unset, .unset, .unset] at_99 rfl rfl ?_
            refine C.lload 103 at_101 rfl rfl ?_
            refine C.iload 105 at_103 rfl rfl ?_
            refine C.i2l 106 at_105 rfl ?_
            refine C.ladd 107 at_106 rfl ?_
            refine C.lstore 109 #[.val (.int m), .val (.long bud), .second, .val (.int l1), .val (.int l2), .val (.int l3), .val (.int mx), .val (.ref b1), .val (.int (1 : Int32)), .val (.int (0 : Int32)), .val (.int (1 : Int32)), .val (.int (0 : Int32)), .val (.int (0 : Int32)), .val (.int (1 : Int32)), .val (.long ((Int32.toInt64 l1) + (Int32.toInt64 l2))), .second, .val (.long (((Int32.toInt64 l1) + (Int32.toInt64 l2)) + (Int32.toInt64 l3))), .second, .unset, .unset, .unset] at_107 rfl rfl ?_
            refine C.iload 111 at_109 rfl rfl ?_
            refine C.iconst 112 (1 : Int32) at_111 rfl rfl ?_
            refine C.icmpF 115 at_112 rfl (flt n1).1 ?_
            refine C.iconst 116 (1 : Int32) at_115 rfl rfl ?_
            refine C.goto 120 at_116 rfl ?_
            refine C.istore 122 #[.val (.int m), .val (.long bud), .second, .val (.int l1), .val (.int l2), .val (.int l3), .val (.int mx), .val (.ref b1), .val (.int (1 : Int32)), .val (.int (0 : Int32)), .val (.int (1 : Int32)), .val (.int (0 : Int32)), .val (.int (0 : Int32)), .val (.int (1 : Int32)), .val (.long ((Int32.toInt64 l1) + (Int32.toInt64 l2))), .second, .val (.long (((Int32.toInt64 l1) + (Int32.toInt64 l2)) + (Int32.toInt64 l3))), .second, .val (.int (1 : Int32)), .unset, .unset] at_120 rfl rfl ?_
            refine C.iload 124 at_122 rfl rfl ?_
            refine C.ifF 127 at_124 rfl (by decide) ?_
            refine C.iload 129 at_127 rfl rfl ?_
            refine C.iconst 130 (2 : Int32) at_129 rfl rfl ?_
            refine C.icmpF 133 at_130 rfl (flt n2).1 ?_
            refine C.lload 135 at_133 rfl rfl ?_
            refine C.lloadN 136 at_135 rfl rfl ?_
            refine C.lcmp 137 at_136 rfl ?_
            refine C.ifF 140 at_137 rfl ((if0 _ _).trans (flt q2).2.2.1) ?_
            refine C.iconst 141 (1 : Int32) at_140 rfl rfl ?_
            refine C.goto 145 at_141 rfl ?_
            refine C.istore 147 #[.val (.int m), .val (.long bud), .second, .val (.int l1), .val (.int l2), .val (.int l3), .val (.int mx), .val (.ref b1), .val (.int (1 : Int32)), .val (.int (0 : Int32)), .val (.int (1 : Int32)), .val (.int (0 : Int32)), .val (.int (0 : Int32)), .val (.int (1 : Int32)), .val (.long ((Int32.toInt64 l1) + (Int32.toInt64 l2))), .second, .val (.long (((Int32.toInt64 l1) + (Int32.toInt64 l2)) + (Int32.toInt64 l3))), .second, .val (.int (1 : Int32)), .val (.int (1 : Int32)), .unset] at_145 rfl rfl ?_
            refine C.iload 149 at_147 rfl rfl ?_
            refine C.ifF 152 at_149 rfl (by decide) ?_
            refine C.iload 154 at_152 rfl rfl ?_
            refine C.iconst 155 (3 : Int32) at_154 rfl rfl ?_
            refine C.icmpF 158 at_155 rfl (flt n3).1 ?_
            refine C.lload 160 at_158 rfl rfl ?_
            refine C.lloadN 161 at_160 rfl rfl ?_
            refine C.lcmp 162 at_161 rfl ?_
            refine C.ifT 169 at_162 rfl ((if0 _ _).trans (tlt q3).2.2.1) ?_
            refine C.iconst 170 (0 : Int32) at_169 rfl rfl ?_
            refine C.istore 172 #[.val (.int m), .val (.long bud), .second, .val (.int l1), .val (.int l2), .val (.int l3), .val (.int mx), .val (.ref b1), .val (.int (1 : Int32)), .val (.int (0 : Int32)), .val (.int (1 : Int32)), .val (.int (0 : Int32)), .val (.int (0 : Int32)), .val (.int (1 : Int32)), .val (.long ((Int32.toInt64 l1) + (Int32.toInt64 l2))), .second, .val (.long (((Int32.toInt64 l1) + (Int32.toInt64 l2)) + (Int32.toInt64 l3))), .second, .val (.int (1 : Int32)), .val (.int (1 : Int32)), .val (.int (0 : Int32))] at_170 rfl rfl ?_
            refine C.iload 174 at_172 rfl rfl ?_
            refine C.iload 176 at_174 rfl rfl ?_
            refine C.icmpF 179 at_176 rfl (by decide) ?_
            refine C.iload 181 at_179 rfl rfl ?_
            refine C.iload 183 at_181 rfl rfl ?_
            refine C.ifT 190 at_183 rfl (by decide) ?_
            refine C.iconst 191 (0 : Int32) at_190 rfl rfl ?_
            refine C.icmpF 194 at_191 rfl (by decide) ?_
            refine C.iload 196 at_194 rfl rfl ?_
            refine C.iload 198 at_196 rfl rfl ?_
            refine C.icmpF 201 at_198 rfl (by decide) ?_
            refine C.iload 203 at_201 rfl rfl ?_
            refine C.iload 205 at_203 rfl rfl ?_
            refine C.ifT 212 at_205 rfl (by decide) ?_
            refine C.iconst 213 (0 : Int32) at_212 rfl rfl ?_
            refine C.icmpF 216 at_213 rfl (by decide) ?_
            refine C.iload 218 at_216 rfl rfl ?_
            refine C.iload 220 at_218 rfl rfl ?_
            refine C.icmpF 223 at_220 rfl (by decide) ?_
            refine C.iload 225 at_223 rfl rfl ?_
            refine C.iload 227 at_225 rfl rfl ?_
            refine C.ifF 230 at_227 rfl (by decide) ?_
            refine C.iconst 231 (1 : Int32) at_230 rfl rfl ?_
            refine C.goto 235 at_231 rfl ?_
            refine C.icmpF 238 at_235 rfl (by decide) ?_
            refine C.iconst 239 (1 : Int32) at_238 rfl rfl ?_
            refine C.goto 243 at_239 rfl ?_
            exact C.retI .boolean at_243 rfl (by simp) rfl (by decide) (by decide) rfl
          · refine C.callV 84 (as := [.int l3]) (rest := []) (rm := ⟨1, 0, 0, 20⟩) 0 at_81 rfl (tw 39) (tw 40) (tw 42) nfSelf (tw 41) (tw 2) (tw 43) (by decide) B.1 (ac_fits l Z a0' hw _ b1 a _ zb1 mx 2 _ l3 bud _ B L hm (by decide) ((if0 _ _).trans (flt q3).2.2.2)) pd6 rfl rfl (Nat.le_of_eq rfl) (by decide) (by decide) (by decide) (by decide) rfl ?_
            rintro v h7 ⟨rfl, B, L, K⟩
            show W h7 3 18 84 #[.val (.int m), .val (.long bud), .second, .val (.int l1), .val (.int l2), .val (.int l3), .val (.int mx), .val (.ref b1), .val (.int (1 : Int32)), .val (.int (0 : Int32)), .val (.int (1 : Int32)), .val (.int (0 : Int32)), .unset, .unset, .unset, .unset, .unset, .unset, .unset, .unset, .unset] [.int (1 : Int32)]
            refine C.istore 86 #[.val (.int m), .val (.long bud), .second, .val (.int l1), .val (.int l2), .val (.int l3), .val (.int mx), .val (.ref b1), .val (.int (1 : Int32)), .val (.int (0 : Int32)), .val (.int (1 : Int32)), .val (.int (0 : Int32)), .val (.int (1 : Int32)), .unset, .unset, .unset, .unset, .unset, .unset, .unset, .unset] at_84 rfl rfl ?_
            refine C.aload 88 at_86 rfl rfl rfl ?_
            refine C.callV 91 (as := []) (rest := []) (rm := ⟨0, 0, 0, 0⟩) 0 at_88 rfl (tw 57) (tw 58) (tw 60) nfSelf (tw 59) (tw 2) (tw 61) (by decide) B.1 (bt_closed l Z a0' hw h7 b1 a mx bud _ (0 : Int32) B rfl) pd8 rfl rfl (Nat.le_of_eq rfl) (by decide) (by decide) (by decide) (by decide) rfl ?_
            refine same_intro ?_
            show W h7 3 18 91 #[.val (.int m), .val (.long bud), .second, .val (.int l1), .val (.int l2), .val (.int l3), .val (.int mx), .val (.ref b1), .val (.int (1 : Int32)), .val (.int (0 : Int32)), .val (.int (1 : Int32)), .val (.int (0 : Int32)), .val (.int (1 : Int32)), .unset, .unset, .unset, .unset, .unset, .unset, .unset, .unset] [.int (0 : Int32)]
            refine C.istore 93 #[.val (.int m), .val (.long bud), .second, .val (.int l1), .val (.int l2), .val (.int l3), .val (.int mx), .val (.ref b1), .val (.int (1 : Int32)), .val (.int (0 : Int32)), .val (.int (1 : Int32)), .val (.int (0 : Int32)), .val (.int (1 : Int32)), .val (.int (0 : Int32)), .unset, .unset, .unset, .unset, .unset, .unset, .unset] at_91 rfl rfl ?_
            refine C.iloadN 94 at_93 rfl rfl ?_
            refine C.i2l 95 at_94 rfl ?_
            refine C.iload 97 at_95 rfl rfl ?_
            refine C.i2l 98 at_97 rfl ?_
            refine C.ladd 99 at_98 rfl ?_
            refine C.lstore 101 #[.val (.int m), .val (.long bud), .second, .val (.int l1), .val (.int l2), .val (.int l3), .val (.int mx), .val (.ref b1), .val (.int (1 : Int32)), .val (.int (0 : Int32)), .val (.int (1 : Int32)), .val (.int (0 : Int32)), .val (.int (1 : Int32)), .val (.int (0 : Int32)), .val (.long ((Int32.toInt64 l1) + (Int32.toInt64 l2))), .second, .unset, .unset, .unset, .unset, .unset] at_99 rfl rfl ?_
            refine C.lload 103 at_101 rfl rfl ?_
            refine C.iload 105 at_103 rfl rfl ?_
            refine C.i2l 106 at_105 rfl ?_
            refine C.ladd 107 at_106 rfl ?_
            refine C.lstore 109 #[.val (.int m), .val (.long bud), .second, .val (.int l1), .val (.int l2), .val (.int l3), .val (.int mx), .val (.ref b1), .val (.int (1 : Int32)), .val (.int (0 : Int32)), .val (.int (1 : Int32)), .val (.int (0 : Int32)), .val (.int (1 : Int32)), .val (.int (0 : Int32)), .val (.long ((Int32.toInt64 l1) + (Int32.toInt64 l2))), .second, .val (.long (((Int32.toInt64 l1) + (Int32.toInt64 l2)) + (Int32.toInt64 l3))), .second, .unset, .unset, .unset] at_107 rfl rfl ?_
            refine C.iload 111 at_109 rfl rfl ?_
            refine C.iconst 112 (1 : Int32) at_111 rfl rfl ?_
            refine C.icmpF 115 at_112 rfl (flt n1).1 ?_
            refine C.iconst 116 (1 : Int32) at_115 rfl rfl ?_
            refine C.goto 120 at_116 rfl ?_
            refine C.istore 122 #[.val (.int m), .val (.long bud), .second, .val (.int l1), .val (.int l2), .val (.int l3), .val (.int mx), .val (.ref b1), .val (.int (1 : Int32)), .val (.int (0 : Int32)), .val (.int (1 : Int32)), .val (.int (0 : Int32)), .val (.int (1 : Int32)), .val (.int (0 : Int32)), .val (.long ((Int32.toInt64 l1) + (Int32.toInt64 l2))), .second, .val (.long (((Int32.toInt64 l1) + (Int32.toInt64 l2)) + (Int32.toInt64 l3))), .second, .val (.int (1 : Int32)), .unset, .unset] at_120 rfl rfl ?_
            refine C.iload 124 at_122 rfl rfl ?_
            refine C.ifF 127 at_124 rfl (by decide) ?_
            refine C.iload 129 at_127 rfl rfl ?_
            refine C.iconst 130 (2 : Int32) at_129 rfl rfl ?_
            refine C.icmpF 133 at_130 rfl (flt n2).1 ?_
            refine C.lload 135 at_133 rfl rfl ?_
            refine C.lloadN 136 at_135 rfl rfl ?_
            refine C.lcmp 137 at_136 rfl ?_
            refine C.ifF 140 at_137 rfl ((if0 _ _).trans (flt q2).2.2.1) ?_
            refine C.iconst 141 (1 : Int32) at_140 rfl rfl ?_
            refine C.goto 145 at_141 rfl ?_
            refine C.istore 147 #[.val (.int m), .val (.long bud), .second, .val (.int l1), .val (.int l2), .val (.int l3), .val (.int mx), .val (.ref b1), .val (.int (1 : Int32)), .val (.int (0 : Int32)), .val (.int (1 : Int32)), .val (.int (0 : Int32)), .val (.int (1 : Int32)), .val (.int (0 : Int32)), .val (.long ((Int32.toInt64 l1) + (Int32.toInt64 l2))), .second, .val (.long (((Int32.toInt64 l1) + (Int32.toInt64 l2)) + (Int32.toInt64 l3))), .second, .val (.int (1 : Int32)), .val (.int (1 : Int32)), .unset] at_145 rfl rfl ?_
            refine C.iload 149 at_147 rfl rfl ?_
            refine C.ifF 152 at_149 rfl (by decide) ?_
            refine C.iload 154 at_152 rfl rfl ?_
            refine C.iconst 155 (3 : Int32) at_154 rfl rfl ?_
            refine C.icmpF 158 at_155 rfl (flt n3).1 ?_
            refine C.lload 160 at_158 rfl rfl ?_
            refine C.lloadN 161 at_160 rfl rfl ?_
            refine C.lcmp 162 at_161 rfl ?_
            refine C.ifF 165 at_162 rfl ((if0 _ _).trans (flt q3).2.2.1) ?_
            refine C.iconst 166 (1 : Int32) at_165 rfl rfl ?_
            refine C.goto 170 at_166 rfl ?_
            refine C.istore 172 #[.val (.int m), .val (.long bud), .second, .val (.int l1), .val (.int l2), .val (.int l3), .val (.int mx), .val (.ref b1), .val (.int (1 : Int32)), .val (.int (0 : Int32)), .val (.int (1 : Int32)), .val (.int (0 : Int32)), .val (.int (1 : Int32)), .val (.int (0 : Int32)), .val (.long ((Int32.toInt64 l1) + (Int32.toInt64 l2))), .second, .val (.long (((Int32.toInt64 l1) + (Int32.toInt64 l2)) + (Int32.toInt64 l3))), .second, .val (.int (1 : Int32)), .val (.int (1 : Int32)), .val (.int (1 : Int32))] at_170 rfl rfl ?_
            refine C.iload 174 at_172 rfl rfl ?_
            refine C.iload 176 at_174 rfl rfl ?_
            refine C.icmpF 179 at_176 rfl (by decide) ?_
            refine C.iload 181 at_179 rfl rfl ?_
            refine C.iload 183 at_181 rfl rfl ?_
            refine C.ifT 190 at_183 rfl (by decide) ?_
            refine C.iconst 191 (0 : Int32) at_190 rfl rfl ?_
            refine C.icmpF 194 at_191 rfl (by decide) ?_
            refine C.iload 196 at_194 rfl rfl ?_
            refine C.iload 198 at_196 rfl rfl ?_
            refine C.icmpF 201 at_198 rfl (by decide) ?_
            refine C.iload 203 at_201 rfl rfl ?_
            refine C.iload 205 at_203 rfl rfl ?_
            refine C.ifT 212 at_205 rfl (by decide) ?_
            refine C.iconst 213 (0 : Int32) at_212 rfl rfl ?_
            refine C.icmpF 216 at_213 rfl (by decide) ?_
            refine C.iload 218 at_216 rfl rfl ?_
            refine C.iload 220 at_218 rfl rfl ?_
            refine C.icmpF 223 at_220 rfl (by decide) ?_
            refine C.iload 225 at_223 rfl rfl ?_
            refine C.iload 227 at_225 rfl rfl ?_
            refine C.ifT 234 at_227 rfl (by decide) ?_
            refine C.iconst 235 (0 : Int32) at_234 rfl rfl ?_
            refine C.icmpF 238 at_235 rfl (by decide) ?_
            refine C.iconst 239 (1 : Int32) at_238 rfl rfl ?_
            refine C.goto 243 at_239 rfl ?_
            exact C.retI .boolean at_243 rfl (by simp) rfl (by decide) (by decide) rfl
theorem len_al {s : State} {args : Array Value} {t : Term} {a : Addr} {ty : FieldType} {z : Int32} (e : t.eval args s none [] s = some (.ref a)) (h0 : (Jvm.Cond.arrayOf t ty).value args s none s [] = some true) (h1 : (Jvm.Cond.eq (Jvm.Term.length t) (Jvm.Term.int z)).value args s none s [] = some true) : ∃ c : Cell, Arr s s.heap a c ty ∧ (c.slots.size : Int) = z.toInt := by
  obtain ⟨c, A⟩ := Arr.start e h0
  have ha := A.fin (Vm.Alike.refl _)
  refine ⟨c, A, ?_⟩
  by_cases hl : c.slots.size < 2 ^ 31
  · have q := len_f e ha hl
    have r : c.slots.size.toInt32 = z := gotT (Cond.eq_ints q (Term.int_eval (z))) h1
    rw [← r, len_toInt hl]
  · simp [Cond.value, Term.eval, e, ha, hl] at h1
theorem elem_int {s : State} {args : Array Value} {t : Term} {a : Addr} {c : Cell} {ty : FieldType} {j z : Int32} (e : t.eval args s none [] s = some (.ref a)) (A : Arr s s.heap a c ty) (hj : ¬ j < 0) (h : (Jvm.Cond.eq (Jvm.Term.elem t (Jvm.Term.int j)) (Jvm.Term.int z)).value args s none s [] = some true) : c.slots[j.toNatClampNeg]? = some (.int z) :=
  (elem_f e (Term.int_eval (j)) (A.fin (Vm.Alike.refl _)) hj).symm.trans (eqv_i (Term.int_eval (z)) h)
theorem elem_ref {s : State} {args : Array Value} {t X : Term} {a x : Addr} {c : Cell} {ty : FieldType} {j : Int32} (e : t.eval args s none [] s = some (.ref a)) (ex : X.eval args s none [] s = some (.ref x)) (A : Arr s s.heap a c ty) (hj : ¬ j < 0) (h : (Jvm.Cond.eq (Jvm.Term.elem t (Jvm.Term.int j)) X).value args s none s [] = some true) : c.slots[j.toNatClampNeg]? = some (.ref x) := by
  have q := elem_f e (Term.int_eval (j)) (A.fin (Vm.Alike.refl _)) hj
  obtain ⟨u, v, e1, e2, k1, k2⟩ := cmp_v (Or.inl h)
  cases ex.symm.trans e2
  rw [← q, e1]
  rw [e1] at q
  simp only [Cond.value, e1, ex] at h
  cases u <;> simp_all
theorem box_at {s : State} {args : Array Value} {t : Term} {X : Jvm.Cond} {a : Addr} {c : Cell} {K : String} (et : ∀ idx, t.eval args s none idx s = some (.ref a)) (A : Arr s s.heap a c (.object K)) (h : (Jvm.Cond.all t (.and (.exactly (.elem t (.index 0)) K) X)).value args s none s [] = some true) (j : Int32) (hj : ¬ j < 0) (hi : j.toNatClampNeg < c.slots.size) : ∃ b, c.slots[j.toNatClampNeg]? = some (.ref b) ∧ Exa s s.heap b K := by
  obtain ⟨u1, u2⟩ := and_e (Cond.all_elim (et []) (A.fin (Vm.Alike.refl _)) h j.toNatClampNeg hi)
  obtain ⟨box, eb⟩ := exa_v u1
  exact ⟨box, (elem_f (et _) (idx_at hj) (A.fin (Vm.Alike.refl _)) hj).symm.trans eb, exa_at eb u1⟩
theorem static_idx {s : State} {args : Array Value} {C f d : String} {v : Value} (e : (Jvm.Term.static C f d).eval args s none [] s = some v) (idx : List Nat) : (Jvm.Term.static C f d).eval args s none idx s = some v := by
  simp only [Term.eval] at e ⊢; exact e
set_option maxRecDepth 65536 in
set_option maxHeartbeats 40000000 in
theorem comes_1 {Post : Tables → Env → Array Value → State → Outcome → State → Prop} (hpost : ∀ tb e args s v u, (limb_1_1.after args s (.returned v) u = true ∧ limb_1_2.after args s (.returned v) u = true ∧ True) → FrameEnd s (.returned v) u (Jvm.fieldLocs frame_1_writes args s ++ Jvm.arrayLocs frame_1_arrays args s ++ Jvm.staticLocs frame_1_statics s) 16 128 → Post tb e args s (.returned v) u) :
    ArmFor flags0 classFile x code maxLocals ret World_1 tables_1 room_1 Calls_1 rest_1 Pre_1 Post := by
  intro l hfl _ _ p e ha hc hk s m args below hf hA hF happ hP
  obtain ⟨hcalls, hrest, hpre⟩ := hP
  obtain ⟨-, -, -, hnamed, -, -, -, hat⟩ := (Spec.applies_iff hf).mp happ
  obtain ⟨hg, hn⟩ := and_e (Cond.before_iff.mp (show (Jvm.Cond.and given_1 narrow_1).before args s = true from hpre))
  obtain ⟨h1, h2⟩ := and_e hg
  obtain ⟨w0, w1, w2, w3, w4, rfl⟩ : ∃ w0 w1 w2 w3 w4 : Value, args = #[w0, w1, w2, w3, w4] := by
    have hs : args.size = 5 := by simpa [Cond.value, given_1] using h1
    obtain ⟨L⟩ := args
    match L, hs with
    | [w0, w1, w2, w3, w4], _ => exact ⟨w0, w1, w2, w3, w4, rfl⟩
  have hw := fun d (hd : d ∈ tables_1) => atoms_spec (ws := Jvm.Cond.code x code maxLocals ret :: tables_1) hat d (List.mem_cons_of_mem _ hd)
  have hfit : Fit s := fun {y c} hc i hi => by
    obtain ⟨ha, rfl⟩ := Array.getElem?_eq_some_iff.mp hc
    have q := List.all_eq_true.mp ((Array.all_eq_true_iff_forall_mem.mp hF) _ (Array.getElem_mem ha)) i (List.mem_range.mpr hi)
    simpa [Array.getElem?_eq_getElem hi] using q
  obtain ⟨q0, h2⟩ := and_e h2
  obtain ⟨i0, e0⟩ := is_v q0
  obtain rfl : w0 = (.int i0) := Option.some.inj e0
  obtain ⟨q1, h2⟩ := and_e h2
  obtain ⟨i1, e1⟩ := isL_v q1
  obtain rfl : w1 = (.long i1) := Option.some.inj e1
  obtain ⟨q2, h2⟩ := and_e h2
  obtain ⟨i2, e2⟩ := is_v q2
  obtain rfl : w2 = (.int i2) := Option.some.inj e2
  obtain ⟨q3, h2⟩ := and_e h2
  obtain ⟨i3, e3⟩ := is_v q3
  obtain rfl : w3 = (.int i3) := Option.some.inj e3
  obtain ⟨i4, e4⟩ := is_v h2
  obtain rfl : w4 = (.int i4) := Option.some.inj e4
  obtain ⟨hsets, hown0⟩ := atoms_of _ (rest_1_c_eq ▸ (show rest_1_c.before _ s = true from hrest))
  obtain ⟨dd, ed⟩ := arr_v (Cond.before_iff.mp (hsets _ (List.mem_of_getElem? (i := 6) rfl)))
  have SD := Sta.start ed (Or.inr ⟨hw _ (tw 11), (hsets _ (List.mem_of_getElem? (i := 2) rfl))⟩)
  obtain ⟨cd, A0, hcd⟩ := len_al ed (Cond.before_iff.mp (hsets _ (List.mem_of_getElem? (i := 6) rfl))) (Cond.before_iff.mp (hsets _ (List.mem_of_getElem? (i := 8) rfl)))
  have AD : Al s s.heap dd (.object "java/lang/Object") [] := ⟨cd, A0, by
    have e0 : (0 : Int32).toInt = 0 := rfl
    rw [e0] at hcd
    exact List.length_eq_zero_iff.mp (by rw [Array.length_toList]; omega)⟩
  have SH := Sta.start (eqv_i (Term.int_eval (127)) (Cond.before_iff.mp (hsets _ (List.mem_of_getElem? (i := 12) rfl)))) (Or.inl (hsets _ (List.mem_of_getElem? (i := 10) rfl)))
  obtain ⟨ca, ec⟩ := arr_v (Cond.before_iff.mp (hsets _ (List.mem_of_getElem? (i := 13) rfl)))
  have SC := Sta.start ec (Or.inr ⟨hw _ (tw 77), (hsets _ (List.mem_of_getElem? (i := 11) rfl))⟩)
  obtain ⟨cc, A1, hcc⟩ := len_al ec (Cond.before_iff.mp (hsets _ (List.mem_of_getElem? (i := 13) rfl))) (Cond.before_iff.mp (hsets _ (List.mem_of_getElem? (i := 15) rfl)))
  have e256 : (256 : Int32).toInt = 256 := rfl
  rw [e256] at hcc
  have AC : Al s s.heap ca (.object "java/lang/Integer") cc.slots.toList := ⟨cc, A1, rfl⟩
  obtain ⟨j1, u1, X1⟩ := box_at (static_idx ec) A1 (Cond.before_iff.mp (hsets _ (List.mem_of_getElem? (i := 16) rfl))) 129 (by decide) (show 129 < cc.slots.size by omega)
  obtain ⟨j2, u2, X2⟩ := box_at (static_idx ec) A1 (Cond.before_iff.mp (hsets _ (List.mem_of_getElem? (i := 16) rfl))) 130 (by decide) (show 130 < cc.slots.size by omega)
  rw [list_at rfl] at u1 u2
  obtain ⟨n, o, h1, h2, h3, _, L, rfl, ⟨rfl, -, N⟩, hq⟩ := law_con l s _ hw i0 i1 i2 i3 i4 dd SD AD SH ca SC _ AC j1 j2 u1 u2 X1 X2 ⟨Nat.le_refl _, fun _ _ q => q⟩ tables_1 p e ha hc hk s m _ below hf ((Spec.applies_iff_loose hf).mp happ).1 ⟨rfl, State.Warmed39.refl s, rfl⟩ trivial
  refine ⟨n, _, h1, h2, h3, hpost _ _ _ _ _ _ ⟨Cond.after_iff.mpr rfl, Cond.after_iff.mpr (eq_i res_at (Term.int_eval (1)) rfl), trivial⟩ ⟨hq.1, hq.2.1, (hq.2.2.sift fun y hy => Or.inr (N y hy)).mono (by decide) (by decide)⟩⟩
theorem main_1_1 : Claimed_1_1 := comes_1 fun _ _ _ _ _ _ h hF => ⟨h.1, hF⟩
theorem main_1_2 : Claimed_1_2 := comes_1 fun _ _ _ _ _ _ h hF => ⟨h.2.1, hF⟩
end Jvm.Pilot.@@N@@
namespace Jvm.Pilot.@@N@@
open Jvm Jvm.ClassFile Sem Op Lib Jvm.Free Jvm.Stand Jvm.Pilot.@@N@@.Jvm.D
/-! MADE BY PROGRAM (witnessworld.py) out of the Statement's table words and the real class files: 26 classes; the members and pool entries that the words name. The judged class is class 1, her method 1. -/
namespace start1
open Jvm.ClassFile
def u (s : String) : CpInfo := .utf8 (stringToUtf16 s)
/-- a pool by its gaps: so many unusable entries, then the entry; so many at the end -/
def gap : Nat → List CpInfo → List CpInfo
  | 0, r => r
  | n + 1, r => .unusable :: gap n r
def poolList (es : List (Nat × CpInfo)) (last : Nat) : List CpInfo := es.foldr (fun e r => gap e.1 (e.2 :: r)) (gap last [])
def pool (es : List (Nat × CpInfo)) (last : Nat) : Array CpInfo := ⟨poolList es last⟩
def fileOf (pool : Array CpInfo) (this : Nat) (attrs : Array Attribute := #[]) (ms : Array MethodInfo := #[]) (fl : Nat := 33) (sup : Nat := 0) (ifs : Array Nat := #[]) (fds : Array FieldInfo := #[]) : ClassFile where
  minorVersion := 0
  majorVersion := 65
  constantPool := pool
  accessFlags := fl
  thisClass := this
  superClass := sup
  interfaces := ifs
  fields := fds
  methods := ms
  attributes := attrs
def plain (name : String) (sup : Option ClassId) : Class where
  name := name
  kind := .ordinary
  loader := none
  accessFlags := 33
  super := sup
  interfaces := #[]
  cf := none
  fields := #[]
  methods := #[]
  instanceTypes := #[]
  staticTypes := #[]
  resolved := #[]
  callSites := []
  init := .initialized
  statics := none
  mirror := none

def pool0 : Array CpInfo := pool [(5, u "<init>"), (0, u "()V"), (1, .class_ 10), (1, u "java/lang/Object")] 113

def k0c0 : Code := { maxStack := 0, maxLocals := 1, code := object_method_1_code, exceptionTable := #[], attributes := #[] }
def k0m0 : Method := { name := "<init>", desc := "()V", sig := { parameters := [], returnType := none }, accessFlags := 1, code := some k0c0 }
/-- java/lang/Object -/
def k0 : Class := { plain "java/lang/Object" none with
  accessFlags := 33
  interfaces := #[]
  cf := some (fileOf pool0 8 #[] #[{ accessFlags := 1, nameIndex := 5, descriptorIndex := 6, attributes := #[] }] 33 0 #[] #[])
  fields := #[]
  methods := #[k0m0]
  instanceTypes := #[]
  staticTypes := #[]
  resolved := Array.replicate 124 none
  statics := none }

def pool1 : Array CpInfo := pool [(2, .class_ 4), (1, u "java/lang/Object"), (0, u "<init>"), (0, u "()V"), (0, .class_ 8), (0, u "com/example/reserved_delivery/reserveddelivery/broker/Batch"), (0, .methodref 7 10), (0, .nameAndType 5 11), (0, u "(IJ)V"), (0, .methodref 7 13), (0, .nameAndType 14 15), (0, u "accepts"), (0, u "(I)Z"), (0, .methodref 17 18), (0, .class_ 19), (0, .nameAndType 20 21), (0, u "java/lang/Integer"), (0, u "valueOf"), (0, u "(I)Ljava/lang/Integer;"), (0, .methodref 7 23), (0, .nameAndType 24 25), (0, u "add"), (0, u "(Ljava/lang/Object;)V"), (0, .methodref 7 27), (0, .nameAndType 28 29), (0, u "closed"), (0, u "()Z"), (0, .class_ 31), (0, u "com/example/reserved_delivery/reserveddelivery/broker/BatchAcceptsPinLaw"), (2, u "law"), (0, u "(IJIII)Z")] 3

def k1m0 : Method := { name := "<init>", desc := "()V", sig := { parameters := [], returnType := none }, accessFlags := 1, code := none }
def k1c1 : Code := { maxStack := 5, maxLocals := 21, code := code, exceptionTable := #[], attributes := #[] }
def k1m1 : Method := { name := "law", desc := "(IJIII)Z", sig := { parameters := [.int, .long, .int, .int, .int], returnType := some .boolean }, accessFlags := 9, code := some k1c1 }
/-- com/example/reserved_delivery/reserveddelivery/broker/BatchAcceptsPinLaw -/
def k1 : Class := { plain "com/example/reserved_delivery/reserveddelivery/broker/BatchAcceptsPinLaw" (some 0) with
  accessFlags := 49
  interfaces := #[]
  cf := some (fileOf pool1 30 #[] #[{ accessFlags := 1, nameIndex := 5, descriptorIndex := 6, attributes := #[] }, { accessFlags := 9, nameIndex := 34, descriptorIndex := 35, attributes := #[] }] 49 2 #[] #[])
  fields := #[]
  methods := #[k1m0, k1m1]
  instanceTypes := #[]
  staticTypes := #[]
  resolved := Array.replicate 39 none
  statics := none }

def pool2 : Array CpInfo := pool [(1, .methodref 2 3), (0, .class_ 4), (0, .nameAndType 5 6), (0, u "java/lang/Object"), (0, u "<init>"), (0, u "()V"), (0, .class_ 8), (0, u "java/util/ArrayList"), (0, .methodref 7 3), (0, .fieldref 11 12), (0, .class_ 13), (0, .nameAndType 14 15), (0, u "com/example/reserved_delivery/reserveddelivery/broker/Batch"), (0, u "items"), (0, u "Ljava/util/List;"), (0, .fieldref 11 17), (0, .nameAndType 18 19), (0, u "max"), (0, u "I"), (0, .fieldref 11 21), (0, .nameAndType 22 23), (0, u "budgetBytes"), (0, u "J"), (0, .fieldref 11 25), (0, .nameAndType 26 27), (0, u "closed"), (0, u "Z"), (0, .interfaceMethodref 29 30), (0, .class_ 31), (0, .nameAndType 32 33), (0, u "java/util/List"), (0, u "size"), (0, u "()I"), (0, .interfaceMethodref 29 35), (0, .nameAndType 36 37), (0, u "isEmpty"), (0, u "()Z"), (0, .fieldref 11 39), (0, .nameAndType 40 23), (0, u "bytes"), (0, .interfaceMethodref 29 42), (0, .nameAndType 43 44), (0, u "add"), (0, u "(Ljava/lang/Object;)Z"), (2, u "(IJ)V"), (2, u "accepts"), (0, u "(I)Z"), (1, u "(Ljava/lang/Object;)V")] 6

def k2c0 : Code := { maxStack := 3, maxLocals := 4, code := prog_9_method_1_code, exceptionTable := #[], attributes := #[] }
def k2m0 : Method := { name := "<init>", desc := "(IJ)V", sig := { parameters := [.int, .long], returnType := none }, accessFlags := 0, code := some k2c0 }
def k2c1 : Code := { maxStack := 5, maxLocals := 2, code := prog_9_method_2_code, exceptionTable := #[], attributes := #[] }
def k2m1 : Method := { name := "accepts", desc := "(I)Z", sig := { parameters := [.int], returnType := some .boolean }, accessFlags := 0, code := some k2c1 }
def k2c2 : Code := { maxStack := 2, maxLocals := 2, code := prog_9_method_3_code, exceptionTable := #[], attributes := #[] }
def k2m2 : Method := { name := "add", desc := "(Ljava/lang/Object;)V", sig := { parameters := [(.object "java/lang/Object")], returnType := none }, accessFlags := 0, code := some k2c2 }
def k2c3 : Code := { maxStack := 1, maxLocals := 1, code := prog_9_method_4_code, exceptionTable := #[], attributes := #[] }
def k2m3 : Method := { name := "closed", desc := "()Z", sig := { parameters := [], returnType := some .boolean }, accessFlags := 0, code := some k2c3 }
/-- com/example/reserved_delivery/reserveddelivery/broker/Batch -/
def k2 : Class := { plain "com/example/reserved_delivery/reserveddelivery/broker/Batch" (some 0) with
  accessFlags := 32
  interfaces := #[]
  cf := some (fileOf pool2 11 #[] #[{ accessFlags := 0, nameIndex := 5, descriptorIndex := 47, attributes := #[] }, { accessFlags := 0, nameIndex := 50, descriptorIndex := 51, attributes := #[] }, { accessFlags := 0, nameIndex := 43, descriptorIndex := 53, attributes := #[] }, { accessFlags := 0, nameIndex := 26, descriptorIndex := 37, attributes := #[] }] 32 2 #[] #[{ accessFlags := 18, nameIndex := 18, descriptorIndex := 19, attributes := #[] }, { accessFlags := 18, nameIndex := 22, descriptorIndex := 23, attributes := #[] }, { accessFlags := 18, nameIndex := 14, descriptorIndex := 15, attributes := #[] }, { accessFlags := 2, nameIndex := 40, descriptorIndex := 23, attributes := #[] }, { accessFlags := 2, nameIndex := 26, descriptorIndex := 27, attributes := #[] }])
  fields := #[{ name := "max", type := .int, accessFlags := 18, slot := 0, constantValue := 0 }, { name := "budgetBytes", type := .long, accessFlags := 18, slot := 1, constantValue := 0 }, { name := "items", type := (.object "java/util/List"), accessFlags := 18, slot := 2, constantValue := 0 }, { name := "bytes", type := .long, accessFlags := 2, slot := 3, constantValue := 0 }, { name := "closed", type := .boolean, accessFlags := 2, slot := 4, constantValue := 0 }]
  methods := #[k2m0, k2m1, k2m2, k2m3]
  instanceTypes := #[.int, .long, (.object "java/util/List"), .long, .boolean]
  staticTypes := #[]
  resolved := Array.replicate 60 none
  statics := none }

def pool3 : Array CpInfo := pool [(8, .class_ 10), (1, u "java/lang/Iterable"), (24, .class_ 36), (0, u "java/lang/Object")] 25

/-- java/lang/Iterable -/
def k3 : Class := { plain "java/lang/Iterable" (some 0) with
  accessFlags := 1537
  interfaces := #[]
  cf := some (fileOf pool3 8 #[] #[] 1537 35 #[] #[])
  fields := #[]
  methods := #[]
  instanceTypes := #[]
  staticTypes := #[]
  resolved := Array.replicate 62 none
  statics := none }

def pool4 : Array CpInfo := pool [(10, .class_ 12), (1, u "java/util/Collection"), (47, .class_ 61), (0, u "java/lang/Object"), (0, .class_ 63), (0, u "java/lang/Iterable")] 51

/-- java/util/Collection -/
def k4 : Class := { plain "java/util/Collection" (some 0) with
  accessFlags := 1537
  interfaces := #[3]
  cf := some (fileOf pool4 10 #[] #[] 1537 60 #[62] #[])
  fields := #[]
  methods := #[]
  instanceTypes := #[]
  staticTypes := #[]
  resolved := Array.replicate 115 none
  statics := none }

def pool5 : Array CpInfo := pool [(1, .methodref 2 3), (0, .class_ 4), (0, .nameAndType 5 6), (0, u "java/lang/Object"), (0, u "<init>"), (0, u "()V"), (1, .class_ 10), (1, u "java/util/AbstractCollection"), (66, .class_ 78), (0, u "java/util/Collection")] 81

def k5c0 : Code := { maxStack := 1, maxLocals := 1, code := jdk_22_method_1_code, exceptionTable := #[], attributes := #[] }
def k5m0 : Method := { name := "<init>", desc := "()V", sig := { parameters := [], returnType := none }, accessFlags := 4, code := some k5c0 }
/-- java/util/AbstractCollection -/
def k5 : Class := { plain "java/util/AbstractCollection" (some 0) with
  accessFlags := 1057
  interfaces := #[4]
  cf := some (fileOf pool5 8 #[] #[{ accessFlags := 4, nameIndex := 5, descriptorIndex := 6, attributes := #[] }] 1057 2 #[77] #[])
  fields := #[]
  methods := #[k5m0]
  instanceTypes := #[]
  staticTypes := #[]
  resolved := Array.replicate 160 none
  statics := none }

def pool6 : Array CpInfo := pool [(8, .class_ 10), (1, u "java/util/SequencedCollection"), (15, .class_ 27), (0, u "java/lang/Object"), (0, .class_ 29), (0, u "java/util/Collection")] 27

/-- java/util/SequencedCollection -/
def k6 : Class := { plain "java/util/SequencedCollection" (some 0) with
  accessFlags := 1537
  interfaces := #[4]
  cf := some (fileOf pool6 8 #[] #[] 1537 26 #[28] #[])
  fields := #[]
  methods := #[]
  instanceTypes := #[]
  staticTypes := #[]
  resolved := Array.replicate 57 none
  statics := none }

def pool7 : Array CpInfo := pool [(8, .class_ 10), (1, u "java/util/List"), (7, u "()Z"), (41, u "add"), (3, u "(Ljava/lang/Object;)Z"), (2, u "isEmpty"), (11, u "size"), (0, u "()I"), (22, .class_ 104), (0, u "java/lang/Object"), (15, .class_ 121), (0, u "java/util/SequencedCollection")] 129

def k7m0 : Method := { name := "size", desc := "()I", sig := { parameters := [], returnType := some .int }, accessFlags := 1025, code := none }
def k7m1 : Method := { name := "isEmpty", desc := "()Z", sig := { parameters := [], returnType := some .boolean }, accessFlags := 1025, code := none }
def k7m2 : Method := { name := "add", desc := "(Ljava/lang/Object;)Z", sig := { parameters := [(.object "java/lang/Object")], returnType := some .boolean }, accessFlags := 1025, code := none }
/-- java/util/List -/
def k7 : Class := { plain "java/util/List" (some 0) with
  accessFlags := 1537
  interfaces := #[6]
  cf := some (fileOf pool7 8 #[] #[{ accessFlags := 1025, nameIndex := 79, descriptorIndex := 80, attributes := #[] }, { accessFlags := 1025, nameIndex := 67, descriptorIndex := 18, attributes := #[] }, { accessFlags := 1025, nameIndex := 60, descriptorIndex := 64, attributes := #[] }] 1537 103 #[120] #[])
  fields := #[]
  methods := #[k7m0, k7m1, k7m2]
  instanceTypes := #[]
  staticTypes := #[]
  resolved := Array.replicate 251 none
  statics := none }

def pool8 : Array CpInfo := pool [(1, .methodref 2 3), (0, .class_ 4), (0, .nameAndType 5 6), (0, u "java/util/AbstractCollection"), (0, u "<init>"), (0, u "()V"), (0, .fieldref 8 9), (0, .class_ 10), (0, .nameAndType 11 12), (0, u "java/util/AbstractList"), (0, u "modCount"), (0, u "I"), (64, .class_ 78), (0, u "java/util/AbstractList$Itr"), (3, .class_ 83), (0, u "java/util/AbstractList$ListItr"), (9, .class_ 94), (0, u "java/util/AbstractList$RandomAccessSubList"), (3, .class_ 99), (0, u "java/util/AbstractList$SubList"), (33, .class_ 134), (0, u "java/util/List"), (73, .class_ 209), (0, u "java/util/AbstractList$SubList$1"), (0, .class_ 211), (0, u "java/util/AbstractList$RandomAccessSpliterator")] 6

def k8c0 : Code := { maxStack := 2, maxLocals := 1, code := jdk_39_method_1_code, exceptionTable := #[], attributes := #[] }
def k8m0 : Method := { name := "<init>", desc := "()V", sig := { parameters := [], returnType := none }, accessFlags := 4, code := some k8c0 }
/-- java/util/AbstractList -/
def k8 : Class := { plain "java/util/AbstractList" (some 5) with
  accessFlags := 1057
  interfaces := #[7]
  cf := some (fileOf pool8 8 #[.nestMembers #[93, 98, 208, 210, 82, 77]] #[{ accessFlags := 4, nameIndex := 5, descriptorIndex := 6, attributes := #[] }] 1057 2 #[133] #[{ accessFlags := 132, nameIndex := 11, descriptorIndex := 12, attributes := #[] }])
  fields := #[{ name := "modCount", type := .int, accessFlags := 132, slot := 0, constantValue := 0 }]
  methods := #[k8m0]
  instanceTypes := #[.int]
  staticTypes := #[]
  resolved := Array.replicate 218 none
  statics := none }

def pool9 : Array CpInfo := pool [(1, .class_ 2), (0, u "java/util/RandomAccess"), (0, .class_ 4), (0, u "java/lang/Object")] 2

/-- java/util/RandomAccess -/
def k9 : Class := { plain "java/util/RandomAccess" (some 0) with
  accessFlags := 1537
  interfaces := #[]
  cf := some (fileOf pool9 1 #[] #[] 1537 3 #[] #[])
  fields := #[]
  methods := #[]
  instanceTypes := #[]
  staticTypes := #[]
  resolved := Array.replicate 7 none
  statics := none }

def pool10 : Array CpInfo := pool [(1, .class_ 2), (0, u "java/lang/Cloneable"), (0, .class_ 4), (0, u "java/lang/Object")] 2

/-- java/lang/Cloneable -/
def k10 : Class := { plain "java/lang/Cloneable" (some 0) with
  accessFlags := 1537
  interfaces := #[]
  cf := some (fileOf pool10 1 #[] #[] 1537 3 #[] #[])
  fields := #[]
  methods := #[]
  instanceTypes := #[]
  staticTypes := #[]
  resolved := Array.replicate 7 none
  statics := none }

def pool11 : Array CpInfo := pool [(1, .class_ 2), (0, u "java/io/Serializable"), (0, .class_ 4), (0, u "java/lang/Object")] 2

/-- java/io/Serializable -/
def k11 : Class := { plain "java/io/Serializable" (some 0) with
  accessFlags := 1537
  interfaces := #[]
  cf := some (fileOf pool11 1 #[] #[] 1537 3 #[] #[])
  fields := #[]
  methods := #[]
  instanceTypes := #[]
  staticTypes := #[]
  resolved := Array.replicate 7 none
  statics := none }

def pool12 : Array CpInfo := pool [(1, .methodref 2 3), (0, .class_ 4), (0, .nameAndType 5 6), (0, u "java/util/AbstractList"), (0, u "<init>"), (0, u "()V"), (0, .class_ 8), (0, u "java/lang/Object"), (0, .fieldref 10 11), (0, .class_ 12), (0, .nameAndType 13 14), (0, u "java/util/ArrayList"), (0, u "elementData"), (0, u "[Ljava/lang/Object;"), (2, u "EMPTY_ELEMENTDATA"), (21, .fieldref 10 40), (0, .nameAndType 41 14), (0, u "DEFAULTCAPACITY_EMPTY_ELEMENTDATA"), (5, u "()[Ljava/lang/Object;"), (0, .fieldref 10 49), (0, .nameAndType 50 51), (0, u "size"), (0, u "I"), (11, .fieldref 10 64), (0, .nameAndType 65 51), (0, u "modCount"), (3, .methodref 10 70), (0, .nameAndType 71 72), (0, u "grow"), (0, u "(I)[Ljava/lang/Object;"), (6, .methodref 80 81), (0, .class_ 82), (0, .nameAndType 83 84), (0, u "java/lang/Math"), (0, u "max"), (0, u "(II)I"), (11, u "(Ljava/lang/Object;)Z"), (32, .methodref 10 130), (0, .nameAndType 71 47), (0, .methodref 10 132), (0, .nameAndType 133 134), (0, u "add"), (0, u "(Ljava/lang/Object;[Ljava/lang/Object;I)V"), (13, .class_ 149), (0, u "java/util/List"), (23, u "()Z"), (12, u "()I"), (75, .class_ 263), (0, u "java/util/ArrayList$ListItr"), (3, .class_ 268), (0, u "java/util/ArrayList$Itr"), (7, .class_ 277), (0, u "java/util/ArrayList$SubList"), (12, .class_ 291), (0, u "java/util/ArrayList$ArrayListSpliterator"), (37, .class_ 330), (0, u "java/util/RandomAccess"), (0, .class_ 332), (0, u "java/lang/Cloneable"), (0, .class_ 334), (0, u "java/io/Serializable"), (0, u "serialVersionUID"), (0, u "J"), (3, u "DEFAULT_CAPACITY"), (22, u "isEmpty"), (136, .class_ 501), (0, u "java/util/ArrayList$SubList$2"), (0, .class_ 503), (0, u "java/util/ArrayList$SubList$1")] 5

def k12c0 : Code := { maxStack := 2, maxLocals := 1, code := jdk_38_method_2_code, exceptionTable := #[], attributes := #[] }
def k12m0 : Method := { name := "<init>", desc := "()V", sig := { parameters := [], returnType := none }, accessFlags := 1, code := some k12c0 }
def k12c1 : Code := { maxStack := 4, maxLocals := 4, code := jdk_38_method_6_code, exceptionTable := #[], attributes := #[] }
def k12m1 : Method := { name := "grow", desc := "(I)[Ljava/lang/Object;", sig := { parameters := [.int], returnType := some (.array (.object "java/lang/Object")) }, accessFlags := 2, code := some k12c1 }
def k12c2 : Code := { maxStack := 3, maxLocals := 1, code := jdk_38_method_7_code, exceptionTable := #[], attributes := #[] }
def k12m2 : Method := { name := "grow", desc := "()[Ljava/lang/Object;", sig := { parameters := [], returnType := some (.array (.object "java/lang/Object")) }, accessFlags := 2, code := some k12c2 }
def k12c3 : Code := { maxStack := 1, maxLocals := 1, code := jdk_38_method_8_code, exceptionTable := #[], attributes := #[] }
def k12m3 : Method := { name := "size", desc := "()I", sig := { parameters := [], returnType := some .int }, accessFlags := 1, code := some k12c3 }
def k12c4 : Code := { maxStack := 1, maxLocals := 1, code := jdk_38_method_9_code, exceptionTable := #[], attributes := #[] }
def k12m4 : Method := { name := "isEmpty", desc := "()Z", sig := { parameters := [], returnType := some .boolean }, accessFlags := 1, code := some k12c4 }
def k12c5 : Code := { maxStack := 3, maxLocals := 4, code := jdk_38_method_24_code, exceptionTable := #[], attributes := #[] }
def k12m5 : Method := { name := "add", desc := "(Ljava/lang/Object;[Ljava/lang/Object;I)V", sig := { parameters := [(.object "java/lang/Object"), (.array (.object "java/lang/Object")), .int], returnType := none }, accessFlags := 2, code := some k12c5 }
def k12c6 : Code := { maxStack := 4, maxLocals := 2, code := jdk_38_method_25_code, exceptionTable := #[], attributes := #[] }
def k12m6 : Method := { name := "add", desc := "(Ljava/lang/Object;)Z", sig := { parameters := [(.object "java/lang/Object")], returnType := some .boolean }, accessFlags := 1, code := some k12c6 }
/-- java/util/ArrayList -/
def k12 : Class := { plain "java/util/ArrayList" (some 8) with
  accessFlags := 33
  interfaces := #[7, 9, 10, 11]
  cf := some (fileOf pool12 10 #[.nestMembers #[290, 276, 500, 502, 262, 267]] #[{ accessFlags := 1, nameIndex := 5, descriptorIndex := 6, attributes := #[] }, { accessFlags := 2, nameIndex := 71, descriptorIndex := 72, attributes := #[] }, { accessFlags := 2, nameIndex := 71, descriptorIndex := 47, attributes := #[] }, { accessFlags := 1, nameIndex := 50, descriptorIndex := 186, attributes := #[] }, { accessFlags := 1, nameIndex := 363, descriptorIndex := 173, attributes := #[] }, { accessFlags := 2, nameIndex := 133, descriptorIndex := 134, attributes := #[] }, { accessFlags := 1, nameIndex := 133, descriptorIndex := 96, attributes := #[] }] 33 2 #[148, 329, 331, 333] #[{ accessFlags := 26, nameIndex := 335, descriptorIndex := 336, attributes := #[] }, { accessFlags := 26, nameIndex := 340, descriptorIndex := 51, attributes := #[] }, { accessFlags := 26, nameIndex := 17, descriptorIndex := 14, attributes := #[] }, { accessFlags := 26, nameIndex := 41, descriptorIndex := 14, attributes := #[] }, { accessFlags := 128, nameIndex := 13, descriptorIndex := 14, attributes := #[] }, { accessFlags := 2, nameIndex := 50, descriptorIndex := 51, attributes := #[] }])
  fields := #[{ name := "serialVersionUID", type := .long, accessFlags := 26, slot := 0, constantValue := 0 }, { name := "DEFAULT_CAPACITY", type := .int, accessFlags := 26, slot := 1, constantValue := 0 }, { name := "EMPTY_ELEMENTDATA", type := (.array (.object "java/lang/Object")), accessFlags := 26, slot := 2, constantValue := 0 }, { name := "DEFAULTCAPACITY_EMPTY_ELEMENTDATA", type := (.array (.object "java/lang/Object")), accessFlags := 26, slot := 3, constantValue := 0 }, { name := "elementData", type := (.array (.object "java/lang/Object")), accessFlags := 128, slot := 1, constantValue := 0 }, { name := "size", type := .int, accessFlags := 2, slot := 2, constantValue := 0 }]
  methods := #[k12m0, k12m1, k12m2, k12m3, k12m4, k12m5, k12m6]
  instanceTypes := #[.int, (.array (.object "java/lang/Object")), .int]
  staticTypes := #[.long, .int, (.array (.object "java/lang/Object")), (.array (.object "java/lang/Object"))]
  resolved := Array.replicate 509 none
  statics := some 0 }

def pool13 : Array CpInfo := pool [(2, .class_ 4), (1, u "java/lang/Object"), (0, u "<init>"), (0, u "()V"), (1, .class_ 10), (1, u "java/lang/Number"), (2, .class_ 14), (0, u "java/io/Serializable"), (0, u "serialVersionUID"), (0, u "J")] 20

def k13m0 : Method := { name := "<init>", desc := "()V", sig := { parameters := [], returnType := none }, accessFlags := 1, code := none }
/-- java/lang/Number -/
def k13 : Class := { plain "java/lang/Number" (some 0) with
  accessFlags := 1057
  interfaces := #[11]
  cf := some (fileOf pool13 8 #[] #[{ accessFlags := 1, nameIndex := 5, descriptorIndex := 6, attributes := #[] }] 1057 2 #[13] #[{ accessFlags := 26, nameIndex := 15, descriptorIndex := 16, attributes := #[] }])
  fields := #[{ name := "serialVersionUID", type := .long, accessFlags := 26, slot := 0, constantValue := 0 }]
  methods := #[k13m0]
  instanceTypes := #[]
  staticTypes := #[.long]
  resolved := Array.replicate 37 none
  statics := none }

def pool14 : Array CpInfo := pool [(1, .class_ 2), (0, u "java/lang/Comparable"), (0, .class_ 4), (0, u "java/lang/Object")] 7

/-- java/lang/Comparable -/
def k14 : Class := { plain "java/lang/Comparable" (some 0) with
  accessFlags := 1537
  interfaces := #[]
  cf := some (fileOf pool14 1 #[] #[] 1537 3 #[] #[])
  fields := #[]
  methods := #[]
  instanceTypes := #[]
  staticTypes := #[]
  resolved := Array.replicate 12 none
  statics := none }

def pool15 : Array CpInfo := pool [(1, .class_ 2), (0, u "java/lang/constant/Constable"), (0, .class_ 4), (0, u "java/lang/Object")] 6

/-- java/lang/constant/Constable -/
def k15 : Class := { plain "java/lang/constant/Constable" (some 0) with
  accessFlags := 1537
  interfaces := #[]
  cf := some (fileOf pool15 1 #[] #[] 1537 3 #[] #[])
  fields := #[]
  methods := #[]
  instanceTypes := #[]
  staticTypes := #[]
  resolved := Array.replicate 11 none
  statics := none }

def pool16 : Array CpInfo := pool [(1, .class_ 2), (0, u "java/lang/constant/ConstantDesc"), (0, .class_ 4), (0, u "java/lang/Object")] 32

/-- java/lang/constant/ConstantDesc -/
def k16 : Class := { plain "java/lang/constant/ConstantDesc" (some 0) with
  accessFlags := 1537
  interfaces := #[]
  cf := some (fileOf pool16 1 #[] #[] 1537 3 #[] #[])
  fields := #[]
  methods := #[]
  instanceTypes := #[]
  staticTypes := #[]
  resolved := Array.replicate 37 none
  statics := none }

def pool17 : Array CpInfo := pool [(1, .class_ 2), (0, u "java/lang/Integer"), (16, u "digits"), (0, u "[C"), (64, u "DigitOnes"), (0, u "[B"), (2, u "DigitTens"), (97, u "valueOf"), (0, u "(I)Ljava/lang/Integer;"), (0, .class_ 190), (0, u "java/lang/Integer$IntegerCache"), (0, .fieldref 189 192), (0, .nameAndType 193 194), (0, u "high"), (0, u "I"), (0, .fieldref 189 196), (0, .nameAndType 197 198), (0, u "cache"), (0, u "[Ljava/lang/Integer;"), (4, .class_ 204), (0, u "java/lang/Number"), (2, u "value"), (94, u "TYPE"), (0, u "Ljava/lang/Class;"), (0, .class_ 305), (0, u "java/lang/Comparable"), (0, .class_ 307), (0, u "java/lang/constant/Constable"), (0, .class_ 309), (0, u "java/lang/constant/ConstantDesc"), (0, u "MIN_VALUE"), (1, u "MAX_VALUE"), (3, u "SIZE"), (1, u "BYTES"), (1, u "serialVersionUID"), (0, u "J")] 131

def k17c0 : Code := { maxStack := 3, maxLocals := 1, code := jdk_33_method_22_code, exceptionTable := #[], attributes := #[] }
def k17m0 : Method := { name := "valueOf", desc := "(I)Ljava/lang/Integer;", sig := { parameters := [.int], returnType := some (.object "java/lang/Integer") }, accessFlags := 9, code := some k17c0 }
/-- java/lang/Integer -/
def k17 : Class := { plain "java/lang/Integer" (some 13) with
  accessFlags := 49
  interfaces := #[14, 15, 16]
  cf := some (fileOf pool17 1 #[.nestMembers #[189]] #[{ accessFlags := 9, nameIndex := 187, descriptorIndex := 188, attributes := #[] }] 49 203 #[304, 306, 308] #[{ accessFlags := 25, nameIndex := 310, descriptorIndex := 194, attributes := #[] }, { accessFlags := 25, nameIndex := 312, descriptorIndex := 194, attributes := #[] }, { accessFlags := 25, nameIndex := 302, descriptorIndex := 303, attributes := #[] }, { accessFlags := 24, nameIndex := 19, descriptorIndex := 20, attributes := #[] }, { accessFlags := 24, nameIndex := 89, descriptorIndex := 86, attributes := #[] }, { accessFlags := 24, nameIndex := 85, descriptorIndex := 86, attributes := #[] }, { accessFlags := 18, nameIndex := 207, descriptorIndex := 194, attributes := #[] }, { accessFlags := 25, nameIndex := 316, descriptorIndex := 194, attributes := #[] }, { accessFlags := 25, nameIndex := 318, descriptorIndex := 194, attributes := #[] }, { accessFlags := 26, nameIndex := 320, descriptorIndex := 321, attributes := #[] }])
  fields := #[{ name := "MIN_VALUE", type := .int, accessFlags := 25, slot := 0, constantValue := 0 }, { name := "MAX_VALUE", type := .int, accessFlags := 25, slot := 1, constantValue := 0 }, { name := "TYPE", type := (.object "java/lang/Class"), accessFlags := 25, slot := 2, constantValue := 0 }, { name := "digits", type := (.array .char), accessFlags := 24, slot := 3, constantValue := 0 }, { name := "DigitTens", type := (.array .byte), accessFlags := 24, slot := 4, constantValue := 0 }, { name := "DigitOnes", type := (.array .byte), accessFlags := 24, slot := 5, constantValue := 0 }, { name := "value", type := .int, accessFlags := 18, slot := 0, constantValue := 0 }, { name := "SIZE", type := .int, accessFlags := 25, slot := 6, constantValue := 0 }, { name := "BYTES", type := .int, accessFlags := 25, slot := 7, constantValue := 0 }, { name := "serialVersionUID", type := .long, accessFlags := 26, slot := 8, constantValue := 0 }]
  methods := #[k17m0]
  instanceTypes := #[.int]
  staticTypes := #[.int, .int, (.object "java/lang/Class"), (.array .char), (.array .byte), (.array .byte), .int, .int, .long]
  resolved := Array.replicate 453 none
  statics := none }

def pool18 : Array CpInfo := pool [(2, .class_ 4), (1, u "java/lang/Object"), (0, u "<init>"), (0, u "()V"), (0, .class_ 8), (0, u "java/lang/Integer"), (7, .class_ 18), (1, u "java/lang/Integer$IntegerCache"), (0, u "$assertionsDisabled"), (0, u "Z"), (26, u "high"), (0, u "I"), (8, u "archivedCache"), (0, u "[Ljava/lang/Integer;"), (12, u "cache"), (0, u "low")] 27

def k18m0 : Method := { name := "<init>", desc := "()V", sig := { parameters := [], returnType := none }, accessFlags := 2, code := none }
/-- java/lang/Integer$IntegerCache -/
def k18 : Class := { plain "java/lang/Integer$IntegerCache" (some 0) with
  accessFlags := 48
  interfaces := #[]
  cf := some (fileOf pool18 16 #[.nestHost 7] #[{ accessFlags := 2, nameIndex := 5, descriptorIndex := 6, attributes := #[] }] 48 2 #[] #[{ accessFlags := 24, nameIndex := 72, descriptorIndex := 48, attributes := #[] }, { accessFlags := 24, nameIndex := 47, descriptorIndex := 48, attributes := #[] }, { accessFlags := 24, nameIndex := 71, descriptorIndex := 58, attributes := #[] }, { accessFlags := 8, nameIndex := 57, descriptorIndex := 58, attributes := #[] }, { accessFlags := 4120, nameIndex := 19, descriptorIndex := 20, attributes := #[] }])
  fields := #[{ name := "low", type := .int, accessFlags := 24, slot := 0, constantValue := 0 }, { name := "high", type := .int, accessFlags := 24, slot := 1, constantValue := 0 }, { name := "cache", type := (.array (.object "java/lang/Integer")), accessFlags := 24, slot := 2, constantValue := 0 }, { name := "archivedCache", type := (.array (.object "java/lang/Integer")), accessFlags := 8, slot := 3, constantValue := 0 }, { name := "$assertionsDisabled", type := .boolean, accessFlags := 4120, slot := 4, constantValue := 0 }]
  methods := #[k18m0]
  instanceTypes := #[]
  staticTypes := #[.int, .int, (.array (.object "java/lang/Integer")), (.array (.object "java/lang/Integer")), .boolean]
  resolved := Array.replicate 100 none
  statics := some 1 }

def pool19 : Array CpInfo := pool [(1, .class_ 2), (0, u "java/lang/Math"), (1, .class_ 6), (1, u "java/lang/Object"), (0, u "<init>"), (0, u "()V"), (89, .class_ 100), (1, u "java/lang/Math$RandomNumberGeneratorHolder"), (71, u "negativeZeroFloatBits"), (0, u "J"), (2, u "negativeZeroDoubleBits"), (21, u "max"), (46, u "$assertionsDisabled"), (0, u "Z"), (88, u "(II)I"), (2, u "twoToTheDoubleScaleDown"), (0, u "D"), (4, u "twoToTheDoubleScaleUp"), (9, u "E"), (3, u "PI"), (2, u "TAU"), (2, u "DEGREES_TO_RADIANS"), (0, u "RADIANS_TO_DEGREES")] 94

def k19m0 : Method := { name := "<init>", desc := "()V", sig := { parameters := [], returnType := none }, accessFlags := 2, code := none }
def k19c1 : Code := { maxStack := 2, maxLocals := 2, code := jdk_29_method_65_code, exceptionTable := #[], attributes := #[] }
def k19m1 : Method := { name := "max", desc := "(II)I", sig := { parameters := [.int, .int], returnType := some .int }, accessFlags := 9, code := some k19c1 }
/-- java/lang/Math -/
def k19 : Class := { plain "java/lang/Math" (some 0) with
  accessFlags := 49
  interfaces := #[]
  cf := some (fileOf pool19 1 #[.nestMembers #[98]] #[{ accessFlags := 2, nameIndex := 7, descriptorIndex := 8, attributes := #[] }, { accessFlags := 9, nameIndex := 198, descriptorIndex := 335, attributes := #[] }] 49 4 #[] #[{ accessFlags := 25, nameIndex := 354, descriptorIndex := 339, attributes := #[] }, { accessFlags := 25, nameIndex := 358, descriptorIndex := 339, attributes := #[] }, { accessFlags := 25, nameIndex := 361, descriptorIndex := 339, attributes := #[] }, { accessFlags := 26, nameIndex := 364, descriptorIndex := 339, attributes := #[] }, { accessFlags := 26, nameIndex := 365, descriptorIndex := 339, attributes := #[] }, { accessFlags := 26, nameIndex := 172, descriptorIndex := 173, attributes := #[] }, { accessFlags := 26, nameIndex := 176, descriptorIndex := 173, attributes := #[] }, { accessFlags := 8, nameIndex := 344, descriptorIndex := 339, attributes := #[] }, { accessFlags := 8, nameIndex := 338, descriptorIndex := 339, attributes := #[] }, { accessFlags := 4120, nameIndex := 245, descriptorIndex := 246, attributes := #[] }])
  fields := #[{ name := "E", type := .double, accessFlags := 25, slot := 0, constantValue := 0 }, { name := "PI", type := .double, accessFlags := 25, slot := 1, constantValue := 0 }, { name := "TAU", type := .double, accessFlags := 25, slot := 2, constantValue := 0 }, { name := "DEGREES_TO_RADIANS", type := .double, accessFlags := 26, slot := 3, constantValue := 0 }, { name := "RADIANS_TO_DEGREES", type := .double, accessFlags := 26, slot := 4, constantValue := 0 }, { name := "negativeZeroFloatBits", type := .long, accessFlags := 26, slot := 5, constantValue := 0 }, { name := "negativeZeroDoubleBits", type := .long, accessFlags := 26, slot := 6, constantValue := 0 }, { name := "twoToTheDoubleScaleUp", type := .double, accessFlags := 8, slot := 7, constantValue := 0 }, { name := "twoToTheDoubleScaleDown", type := .double, accessFlags := 8, slot := 8, constantValue := 0 }, { name := "$assertionsDisabled", type := .boolean, accessFlags := 4120, slot := 9, constantValue := 0 }]
  methods := #[k19m0, k19m1]
  instanceTypes := #[]
  staticTypes := #[.double, .double, .double, .double, .double, .long, .long, .double, .double, .boolean]
  resolved := Array.replicate 460 none
  statics := none }

/-- the primitive byte -/
def k20 : Class := { plain "byte" none with kind := .primitive 'B', accessFlags := 0x411 }
/-- [B -/
def k21 : Class := { plain "[B" (some 0) with kind := .array 20 .byte, interfaces := #[10, 11], accessFlags := 1041 }

/-- the primitive int -/
def k22 : Class := { plain "int" none with kind := .primitive 'I', accessFlags := 0x411 }
/-- [I -/
def k23 : Class := { plain "[I" (some 0) with kind := .array 22 .int, interfaces := #[10, 11], accessFlags := 1041 }

/-- [Ljava/lang/Integer; -/
def k24 : Class := { plain "[Ljava/lang/Integer;" (some 0) with kind := .array 17 (.object "java/lang/Integer"), interfaces := #[10, 11], accessFlags := 1041 }

/-- [Ljava/lang/Object; -/
def k25 : Class := { plain "[Ljava/lang/Object;" (some 0) with kind := .array 0 (.object "java/lang/Object"), interfaces := #[10, 11], accessFlags := 1041 }

def heap : Heap := #[{ cls := 12, slots := #[.long 0, .int 0, .ref 2, .ref 3], vm := .statics 12 },
  { cls := 18, slots := #[.int 0, .int 127, .ref 4, .null, .int 0], vm := .statics 18 },
  { cls := 25, slots := #[], vm := .none },
  { cls := 25, slots := #[], vm := .none },
  { cls := 24, slots := #[.ref 5, .ref 6, .ref 7, .ref 8, .ref 9, .ref 10, .ref 11, .ref 12, .ref 13, .ref 14, .ref 15, .ref 16, .ref 17, .ref 18, .ref 19, .ref 20, .ref 21, .ref 22, .ref 23, .ref 24, .ref 25, .ref 26, .ref 27, .ref 28, .ref 29, .ref 30, .ref 31, .ref 32, .ref 33, .ref 34, .ref 35, .ref 36, .ref 37, .ref 38, .ref 39, .ref 40, .ref 41, .ref 42, .ref 43, .ref 44, .ref 45, .ref 46, .ref 47, .ref 48, .ref 49, .ref 50, .ref 51, .ref 52, .ref 53, .ref 54, .ref 55, .ref 56, .ref 57, .ref 58, .ref 59, .ref 60, .ref 61, .ref 62, .ref 63, .ref 64, .ref 65, .ref 66, .ref 67, .ref 68, .ref 69, .ref 70, .ref 71, .ref 72, .ref 73, .ref 74, .ref 75, .ref 76, .ref 77, .ref 78, .ref 79, .ref 80, .ref 81, .ref 82, .ref 83, .ref 84, .ref 85, .ref 86, .ref 87, .ref 88, .ref 89, .ref 90, .ref 91, .ref 92, .ref 93, .ref 94, .ref 95, .ref 96, .ref 97, .ref 98, .ref 99, .ref 100, .ref 101, .ref 102, .ref 103, .ref 104, .ref 105, .ref 106, .ref 107, .ref 108, .ref 109, .ref 110, .ref 111, .ref 112, .ref 113, .ref 114, .ref 115, .ref 116, .ref 117, .ref 118, .ref 119, .ref 120, .ref 121, .ref 122, .ref 123, .ref 124, .ref 125, .ref 126, .ref 127, .ref 128, .ref 129, .ref 130, .ref 131, .ref 132, .ref 133, .ref 134, .ref 135, .ref 136, .ref 137, .ref 138, .ref 139, .ref 140, .ref 141, .ref 142, .ref 143, .ref 144, .ref 145, .ref 146, .ref 147, .ref 148, .ref 149, .ref 150, .ref 151, .ref 152, .ref 153, .ref 154, .ref 155, .ref 156, .ref 157, .ref 158, .ref 159, .ref 160, .ref 161, .ref 162, .ref 163, .ref 164, .ref 165, .ref 166, .ref 167, .ref 168, .ref 169, .ref 170, .ref 171, .ref 172, .ref 173, .ref 174, .ref 175, .ref 176, .ref 177, .ref 178, .ref 179, .ref 180, .ref 181, .ref 182, .ref 183, .ref 184, .ref 185, .ref 186, .ref 187, .ref 188, .ref 189, .ref 190, .ref 191, .ref 192, .ref 193, .ref 194, .ref 195, .ref 196, .ref 197, .ref 198, .ref 199, .ref 200, .ref 201, .ref 202, .ref 203, .ref 204, .ref 205, .ref 206, .ref 207, .ref 208, .ref 209, .ref 210, .ref 211, .ref 212, .ref 213, .ref 214, .ref 215, .ref 216, .ref 217, .ref 218, .ref 219, .ref 220, .ref 221, .ref 222, .ref 223, .ref 224, .ref 225, .ref 226, .ref 227, .ref 228, .ref 229, .ref 230, .ref 231, .ref 232, .ref 233, .ref 234, .ref 235, .ref 236, .ref 237, .ref 238, .ref 239, .ref 240, .ref 241, .ref 242, .ref 243, .ref 244, .ref 245, .ref 246, .ref 247, .ref 248, .ref 249, .ref 250, .ref 251, .ref 252, .ref 253, .ref 254, .ref 255, .ref 256, .ref 257, .ref 258, .ref 259, .ref 260], vm := .none },
  { cls := 17, slots := #[.int (-128)], vm := .none },
  { cls := 17, slots := #[.int (-127)], vm := .none },
  { cls := 17, slots := #[.int (-126)], vm := .none },
  { cls := 17, slots := #[.int (-125)], vm := .none },
  { cls := 17, slots := #[.int (-124)], vm := .none },
  { cls := 17, slots := #[.int (-123)], vm := .none },
  { cls := 17, slots := #[.int (-122)], vm := .none },
  { cls := 17, slots := #[.int (-121)], vm := .none },
  { cls := 17, slots := #[.int (-120)], vm := .none },
  { cls := 17, slots := #[.int (-119)], vm := .none },
  { cls := 17, slots := #[.int (-118)], vm := .none },
  { cls := 17, slots := #[.int (-117)], vm := .none },
  { cls := 17, slots := #[.int (-116)], vm := .none },
  { cls := 17, slots := #[.int (-115)], vm := .none },
  { cls := 17, slots := #[.int (-114)], vm := .none },
  { cls := 17, slots := #[.int (-113)], vm := .none },
  { cls := 17, slots := #[.int (-112)], vm := .none },
  { cls := 17, slots := #[.int (-111)], vm := .none },
  { cls := 17, slots := #[.int (-110)], vm := .none },
  { cls := 17, slots := #[.int (-109)], vm := .none },
  { cls := 17, slots := #[.int (-108)], vm := .none },
  { cls := 17, slots := #[.int (-107)], vm := .none },
  { cls := 17, slots := #[.int (-106)], vm := .none },
  { cls := 17, slots := #[.int (-105)], vm := .none },
  { cls := 17, slots := #[.int (-104)], vm := .none },
  { cls := 17, slots := #[.int (-103)], vm := .none },
  { cls := 17, slots := #[.int (-102)], vm := .none },
  { cls := 17, slots := #[.int (-101)], vm := .none },
  { cls := 17, slots := #[.int (-100)], vm := .none },
  { cls := 17, slots := #[.int (-99)], vm := .none },
  { cls := 17, slots := #[.int (-98)], vm := .none },
  { cls := 17, slots := #[.int (-97)], vm := .none },
  { cls := 17, slots := #[.int (-96)], vm := .none },
  { cls := 17, slots := #[.int (-95)], vm := .none },
  { cls := 17, slots := #[.int (-94)], vm := .none },
  { cls := 17, slots := #[.int (-93)], vm := .none },
  { cls := 17, slots := #[.int (-92)], vm := .none },
  { cls := 17, slots := #[.int (-91)], vm := .none },
  { cls := 17, slots := #[.int (-90)], vm := .none },
  { cls := 17, slots := #[.int (-89)], vm := .none },
  { cls := 17, slots := #[.int (-88)], vm := .none },
  { cls := 17, slots := #[.int (-87)], vm := .none },
  { cls := 17, slots := #[.int (-86)], vm := .none },
  { cls := 17, slots := #[.int (-85)], vm := .none },
  { cls := 17, slots := #[.int (-84)], vm := .none },
  { cls := 17, slots := #[.int (-83)], vm := .none },
  { cls := 17, slots := #[.int (-82)], vm := .none },
  { cls := 17, slots := #[.int (-81)], vm := .none },
  { cls := 17, slots := #[.int (-80)], vm := .none },
  { cls := 17, slots := #[.int (-79)], vm := .none },
  { cls := 17, slots := #[.int (-78)], vm := .none },
  { cls := 17, slots := #[.int (-77)], vm := .none },
  { cls := 17, slots := #[.int (-76)], vm := .none },
  { cls := 17, slots := #[.int (-75)], vm := .none },
  { cls := 17, slots := #[.int (-74)], vm := .none },
  { cls := 17, slots := #[.int (-73)], vm := .none },
  { cls := 17, slots := #[.int (-72)], vm := .none },
  { cls := 17, slots := #[.int (-71)], vm := .none },
  { cls := 17, slots := #[.int (-70)], vm := .none },
  { cls := 17, slots := #[.int (-69)], vm := .none },
  { cls := 17, slots := #[.int (-68)], vm := .none },
  { cls := 17, slots := #[.int (-67)], vm := .none },
  { cls := 17, slots := #[.int (-66)], vm := .none },
  { cls := 17, slots := #[.int (-65)], vm := .none },
  { cls := 17, slots := #[.int (-64)], vm := .none },
  { cls := 17, slots := #[.int (-63)], vm := .none },
  { cls := 17, slots := #[.int (-62)], vm := .none },
  { cls := 17, slots := #[.int (-61)], vm := .none },
  { cls := 17, slots := #[.int (-60)], vm := .none },
  { cls := 17, slots := #[.int (-59)], vm := .none },
  { cls := 17, slots := #[.int (-58)], vm := .none },
  { cls := 17, slots := #[.int (-57)], vm := .none },
  { cls := 17, slots := #[.int (-56)], vm := .none },
  { cls := 17, slots := #[.int (-55)], vm := .none },
  { cls := 17, slots := #[.int (-54)], vm := .none },
  { cls := 17, slots := #[.int (-53)], vm := .none },
  { cls := 17, slots := #[.int (-52)], vm := .none },
  { cls := 17, slots := #[.int (-51)], vm := .none },
  { cls := 17, slots := #[.int (-50)], vm := .none },
  { cls := 17, slots := #[.int (-49)], vm := .none },
  { cls := 17, slots := #[.int (-48)], vm := .none },
  { cls := 17, slots := #[.int (-47)], vm := .none },
  { cls := 17, slots := #[.int (-46)], vm := .none },
  { cls := 17, slots := #[.int (-45)], vm := .none },
  { cls := 17, slots := #[.int (-44)], vm := .none },
  { cls := 17, slots := #[.int (-43)], vm := .none },
  { cls := 17, slots := #[.int (-42)], vm := .none },
  { cls := 17, slots := #[.int (-41)], vm := .none },
  { cls := 17, slots := #[.int (-40)], vm := .none },
  { cls := 17, slots := #[.int (-39)], vm := .none },
  { cls := 17, slots := #[.int (-38)], vm := .none },
  { cls := 17, slots := #[.int (-37)], vm := .none },
  { cls := 17, slots := #[.int (-36)], vm := .none },
  { cls := 17, slots := #[.int (-35)], vm := .none },
  { cls := 17, slots := #[.int (-34)], vm := .none },
  { cls := 17, slots := #[.int (-33)], vm := .none },
  { cls := 17, slots := #[.int (-32)], vm := .none },
  { cls := 17, slots := #[.int (-31)], vm := .none },
  { cls := 17, slots := #[.int (-30)], vm := .none },
  { cls := 17, slots := #[.int (-29)], vm := .none },
  { cls := 17, slots := #[.int (-28)], vm := .none },
  { cls := 17, slots := #[.int (-27)], vm := .none },
  { cls := 17, slots := #[.int (-26)], vm := .none },
  { cls := 17, slots := #[.int (-25)], vm := .none },
  { cls := 17, slots := #[.int (-24)], vm := .none },
  { cls := 17, slots := #[.int (-23)], vm := .none },
  { cls := 17, slots := #[.int (-22)], vm := .none },
  { cls := 17, slots := #[.int (-21)], vm := .none },
  { cls := 17, slots := #[.int (-20)], vm := .none },
  { cls := 17, slots := #[.int (-19)], vm := .none },
  { cls := 17, slots := #[.int (-18)], vm := .none },
  { cls := 17, slots := #[.int (-17)], vm := .none },
  { cls := 17, slots := #[.int (-16)], vm := .none },
  { cls := 17, slots := #[.int (-15)], vm := .none },
  { cls := 17, slots := #[.int (-14)], vm := .none },
  { cls := 17, slots := #[.int (-13)], vm := .none },
  { cls := 17, slots := #[.int (-12)], vm := .none },
  { cls := 17, slots := #[.int (-11)], vm := .none },
  { cls := 17, slots := #[.int (-10)], vm := .none },
  { cls := 17, slots := #[.int (-9)], vm := .none },
  { cls := 17, slots := #[.int (-8)], vm := .none },
  { cls := 17, slots := #[.int (-7)], vm := .none },
  { cls := 17, slots := #[.int (-6)], vm := .none },
  { cls := 17, slots := #[.int (-5)], vm := .none },
  { cls := 17, slots := #[.int (-4)], vm := .none },
  { cls := 17, slots := #[.int (-3)], vm := .none },
  { cls := 17, slots := #[.int (-2)], vm := .none },
  { cls := 17, slots := #[.int (-1)], vm := .none },
  { cls := 17, slots := #[.int (0)], vm := .none },
  { cls := 17, slots := #[.int (1)], vm := .none },
  { cls := 17, slots := #[.int (2)], vm := .none },
  { cls := 17, slots := #[.int (3)], vm := .none },
  { cls := 17, slots := #[.int (4)], vm := .none },
  { cls := 17, slots := #[.int (5)], vm := .none },
  { cls := 17, slots := #[.int (6)], vm := .none },
  { cls := 17, slots := #[.int (7)], vm := .none },
  { cls := 17, slots := #[.int (8)], vm := .none },
  { cls := 17, slots := #[.int (9)], vm := .none },
  { cls := 17, slots := #[.int (10)], vm := .none },
  { cls := 17, slots := #[.int (11)], vm := .none },
  { cls := 17, slots := #[.int (12)], vm := .none },
  { cls := 17, slots := #[.int (13)], vm := .none },
  { cls := 17, slots := #[.int (14)], vm := .none },
  { cls := 17, slots := #[.int (15)], vm := .none },
  { cls := 17, slots := #[.int (16)], vm := .none },
  { cls := 17, slots := #[.int (17)], vm := .none },
  { cls := 17, slots := #[.int (18)], vm := .none },
  { cls := 17, slots := #[.int (19)], vm := .none },
  { cls := 17, slots := #[.int (20)], vm := .none },
  { cls := 17, slots := #[.int (21)], vm := .none },
  { cls := 17, slots := #[.int (22)], vm := .none },
  { cls := 17, slots := #[.int (23)], vm := .none },
  { cls := 17, slots := #[.int (24)], vm := .none },
  { cls := 17, slots := #[.int (25)], vm := .none },
  { cls := 17, slots := #[.int (26)], vm := .none },
  { cls := 17, slots := #[.int (27)], vm := .none },
  { cls := 17, slots := #[.int (28)], vm := .none },
  { cls := 17, slots := #[.int (29)], vm := .none },
  { cls := 17, slots := #[.int (30)], vm := .none },
  { cls := 17, slots := #[.int (31)], vm := .none },
  { cls := 17, slots := #[.int (32)], vm := .none },
  { cls := 17, slots := #[.int (33)], vm := .none },
  { cls := 17, slots := #[.int (34)], vm := .none },
  { cls := 17, slots := #[.int (35)], vm := .none },
  { cls := 17, slots := #[.int (36)], vm := .none },
  { cls := 17, slots := #[.int (37)], vm := .none },
  { cls := 17, slots := #[.int (38)], vm := .none },
  { cls := 17, slots := #[.int (39)], vm := .none },
  { cls := 17, slots := #[.int (40)], vm := .none },
  { cls := 17, slots := #[.int (41)], vm := .none },
  { cls := 17, slots := #[.int (42)], vm := .none },
  { cls := 17, slots := #[.int (43)], vm := .none },
  { cls := 17, slots := #[.int (44)], vm := .none },
  { cls := 17, slots := #[.int (45)], vm := .none },
  { cls := 17, slots := #[.int (46)], vm := .none },
  { cls := 17, slots := #[.int (47)], vm := .none },
  { cls := 17, slots := #[.int (48)], vm := .none },
  { cls := 17, slots := #[.int (49)], vm := .none },
  { cls := 17, slots := #[.int (50)], vm := .none },
  { cls := 17, slots := #[.int (51)], vm := .none },
  { cls := 17, slots := #[.int (52)], vm := .none },
  { cls := 17, slots := #[.int (53)], vm := .none },
  { cls := 17, slots := #[.int (54)], vm := .none },
  { cls := 17, slots := #[.int (55)], vm := .none },
  { cls := 17, slots := #[.int (56)], vm := .none },
  { cls := 17, slots := #[.int (57)], vm := .none },
  { cls := 17, slots := #[.int (58)], vm := .none },
  { cls := 17, slots := #[.int (59)], vm := .none },
  { cls := 17, slots := #[.int (60)], vm := .none },
  { cls := 17, slots := #[.int (61)], vm := .none },
  { cls := 17, slots := #[.int (62)], vm := .none },
  { cls := 17, slots := #[.int (63)], vm := .none },
  { cls := 17, slots := #[.int (64)], vm := .none },
  { cls := 17, slots := #[.int (65)], vm := .none },
  { cls := 17, slots := #[.int (66)], vm := .none },
  { cls := 17, slots := #[.int (67)], vm := .none },
  { cls := 17, slots := #[.int (68)], vm := .none },
  { cls := 17, slots := #[.int (69)], vm := .none },
  { cls := 17, slots := #[.int (70)], vm := .none },
  { cls := 17, slots := #[.int (71)], vm := .none },
  { cls := 17, slots := #[.int (72)], vm := .none },
  { cls := 17, slots := #[.int (73)], vm := .none },
  { cls := 17, slots := #[.int (74)], vm := .none },
  { cls := 17, slots := #[.int (75)], vm := .none },
  { cls := 17, slots := #[.int (76)], vm := .none },
  { cls := 17, slots := #[.int (77)], vm := .none },
  { cls := 17, slots := #[.int (78)], vm := .none },
  { cls := 17, slots := #[.int (79)], vm := .none },
  { cls := 17, slots := #[.int (80)], vm := .none },
  { cls := 17, slots := #[.int (81)], vm := .none },
  { cls := 17, slots := #[.int (82)], vm := .none },
  { cls := 17, slots := #[.int (83)], vm := .none },
  { cls := 17, slots := #[.int (84)], vm := .none },
  { cls := 17, slots := #[.int (85)], vm := .none },
  { cls := 17, slots := #[.int (86)], vm := .none },
  { cls := 17, slots := #[.int (87)], vm := .none },
  { cls := 17, slots := #[.int (88)], vm := .none },
  { cls := 17, slots := #[.int (89)], vm := .none },
  { cls := 17, slots := #[.int (90)], vm := .none },
  { cls := 17, slots := #[.int (91)], vm := .none },
  { cls := 17, slots := #[.int (92)], vm := .none },
  { cls := 17, slots := #[.int (93)], vm := .none },
  { cls := 17, slots := #[.int (94)], vm := .none },
  { cls := 17, slots := #[.int (95)], vm := .none },
  { cls := 17, slots := #[.int (96)], vm := .none },
  { cls := 17, slots := #[.int (97)], vm := .none },
  { cls := 17, slots := #[.int (98)], vm := .none },
  { cls := 17, slots := #[.int (99)], vm := .none },
  { cls := 17, slots := #[.int (100)], vm := .none },
  { cls := 17, slots := #[.int (101)], vm := .none },
  { cls := 17, slots := #[.int (102)], vm := .none },
  { cls := 17, slots := #[.int (103)], vm := .none },
  { cls := 17, slots := #[.int (104)], vm := .none },
  { cls := 17, slots := #[.int (105)], vm := .none },
  { cls := 17, slots := #[.int (106)], vm := .none },
  { cls := 17, slots := #[.int (107)], vm := .none },
  { cls := 17, slots := #[.int (108)], vm := .none },
  { cls := 17, slots := #[.int (109)], vm := .none },
  { cls := 17, slots := #[.int (110)], vm := .none },
  { cls := 17, slots := #[.int (111)], vm := .none },
  { cls := 17, slots := #[.int (112)], vm := .none },
  { cls := 17, slots := #[.int (113)], vm := .none },
  { cls := 17, slots := #[.int (114)], vm := .none },
  { cls := 17, slots := #[.int (115)], vm := .none },
  { cls := 17, slots := #[.int (116)], vm := .none },
  { cls := 17, slots := #[.int (117)], vm := .none },
  { cls := 17, slots := #[.int (118)], vm := .none },
  { cls := 17, slots := #[.int (119)], vm := .none },
  { cls := 17, slots := #[.int (120)], vm := .none },
  { cls := 17, slots := #[.int (121)], vm := .none },
  { cls := 17, slots := #[.int (122)], vm := .none },
  { cls := 17, slots := #[.int (123)], vm := .none },
  { cls := 17, slots := #[.int (124)], vm := .none },
  { cls := 17, slots := #[.int (125)], vm := .none },
  { cls := 17, slots := #[.int (126)], vm := .none },
  { cls := 17, slots := #[.int (127)], vm := .none }]
def classes : Array Class := #[k0, k1, k2, k3, k4, k5, k6, k7, k8, k9, k10, k11, k12, k13, k14, k15, k16, k17, k18, k19, k20, k21, k22, k23, k24, k25]
def interned : List (Array UInt16 × Addr) := []
def slotsUsed : Nat := 521
def theMethod : MethodId := ⟨1, 1⟩
def args0 : Array Value := #[.int 3, .long 100, .int 1, .int 2, .int 3]
def aboutOver (below : List Frame) : State where
  vm := { classes := classes, interned := interned.toArray }
  heap := heap
  slotsUsed := slotsUsed
  threads := #[{ frames := .invoking theMethod args0 :: below }]
def below0 : List Frame := [.native { method := ⟨0, 0⟩, args := #[] }]
def about1 : State := aboutOver below0
def p0 : Program := .bare "" "" ""
def e0 : Env := launch0.env 0 0 0
theorem w_frames : about1.frames = Frame.invoking theMethod args0 :: below0 := rfl
set_option maxRecDepth 65536 in
theorem w_args : argsFit about1.vm theMethod args0 = true := by decide +kernel
set_option maxRecDepth 65536 in
theorem w_heap : heapFits about1 = true := by decide +kernel
set_option maxRecDepth 65536 in
theorem w_runnable : about1.curStatus? = some .runnable := by decide +kernel
set_option maxRecDepth 65536 in
theorem w_alone : about1.alone = true := by decide +kernel
set_option maxRecDepth 65536 in
theorem w_named : about1.methodNamed? x = some theMethod := by decide +kernel
set_option maxRecDepth 65536 in
theorem w_hears : about1.hears theMethod below0 = true := by decide +kernel
set_option maxRecDepth 65536 in
theorem w_ripe : about1.ripe theMethod args0 below0 = true := by decide +kernel
theorem w_running : about1.status = .running := rfl
set_option maxRecDepth 65536 in
theorem w_room : about1.hasRoom e0.platform room_1 = true :=
  launch0.hasRoom_least _ room_1 (by decide +kernel) (by decide +kernel) (by decide +kernel) (by decide +kernel) (by decide +kernel) (by decide +kernel)
theorem allAtoms_all (ts : List Jvm.Cond) (a : Array Jvm.Value) (st : Jvm.State) : (allAtoms ts).before a st = ts.all (fun c => c.before a st) := by
  induction ts with
  | nil => rfl
  | cons c t ih =>
    show (Jvm.Cond.and c (allAtoms t)).before a st = _
    rw [Jvm.Cond.before_and, ih, List.all_cons]
def words1 : List Jvm.Cond := Jvm.Cond.code x code maxLocals ret :: tables_1
/-- a 'code' word, met by the world's own term for the bytes: nothing is compared byte by byte -/
theorem code_word {y : MethodName} {bytes : ByteArray} {mx : Nat} {rt : Option FieldType} {a : Array Value} {s : State} {m : MethodId} {meth : Method} {c : Code} (h1 : s.methodNamed? y = some m) (h2 : s.vm.method? m = some meth) (h3 : meth.code = some c) (h4 : c.code = bytes)
    (h5 : (c.maxLocals == mx && c.exceptionTable.isEmpty && decide (c.maxStack ≤ mostOperands) && decide (meth.sig.returnType = rt) && !meth.locks && decide (parseMethodDescriptor y.desc = some meth.sig)) = true) : (Jvm.Cond.code y bytes mx rt).before a s = true := by
  simp only [Bool.and_eq_true, beq_iff_eq, Bool.not_eq_true', decide_eq_true_eq] at h5
  obtain ⟨⟨⟨⟨⟨g1, g2⟩, g3⟩, g4⟩, g5⟩, g6⟩ := h5
  simp [Cond.before, Cond.holds, Cond.value, h1, h2, h3, h4, g1, g2, g3, g4, g5, g6]
def isCode : Jvm.Cond → Bool
  | .code _ _ _ _ => true
  | _ => false
theorem all_split {L : List Jvm.Cond} {P : Jvm.Cond → Bool} (h1 : L.all (fun c => isCode c || P c) = true) (h2 : ∀ c ∈ L.filter isCode, P c = true) : L.all P = true := by
  refine List.all_eq_true.mpr fun c hc => ?_
  have h := List.all_eq_true.mp h1 c hc
  rcases Bool.eq_false_or_eq_true (isCode c) with hi | hi
  · exact h2 c (List.mem_filter.mpr ⟨hc, hi⟩)
  · simpa [hi] using h
set_option maxRecDepth 65536 in
theorem w_c0 : (Jvm.Cond.code x code maxLocals ret).before args0 about1 = true := code_word (m := ⟨1, 1⟩) (meth := k1m1) (c := k1c1) (by decide +kernel) rfl rfl rfl (by decide +kernel)
set_option maxRecDepth 65536 in
theorem w_c1 : (Jvm.Cond.code ({ cls := "com/example/reserved_delivery/reserveddelivery/broker/Batch", name := "<init>", desc := "(IJ)V" } : Jvm.MethodName) prog_9_method_1_code (4 : Nat) (Option.none : Option Jvm.ClassFile.FieldType)).before args0 about1 = true := code_word (m := ⟨2, 0⟩) (meth := k2m0) (c := k2c0) (by decide +kernel) rfl rfl rfl (by decide +kernel)
set_option maxRecDepth 65536 in
theorem w_c2 : (Jvm.Cond.code ({ cls := "java/lang/Object", name := "<init>", desc := "()V" } : Jvm.MethodName) object_method_1_code (1 : Nat) (Option.none : Option Jvm.ClassFile.FieldType)).before args0 about1 = true := code_word (m := ⟨0, 0⟩) (meth := k0m0) (c := k0c0) (by decide +kernel) rfl rfl rfl (by decide +kernel)
set_option maxRecDepth 65536 in
theorem w_c3 : (Jvm.Cond.code ({ cls := "java/util/ArrayList", name := "<init>", desc := "()V" } : Jvm.MethodName) jdk_38_method_2_code (1 : Nat) (Option.none : Option Jvm.ClassFile.FieldType)).before args0 about1 = true := code_word (m := ⟨12, 0⟩) (meth := k12m0) (c := k12c0) (by decide +kernel) rfl rfl rfl (by decide +kernel)
set_option maxRecDepth 65536 in
theorem w_c4 : (Jvm.Cond.code ({ cls := "java/util/AbstractList", name := "<init>", desc := "()V" } : Jvm.MethodName) jdk_39_method_1_code (1 : Nat) (Option.none : Option Jvm.ClassFile.FieldType)).before args0 about1 = true := code_word (m := ⟨8, 0⟩) (meth := k8m0) (c := k8c0) (by decide +kernel) rfl rfl rfl (by decide +kernel)
set_option maxRecDepth 65536 in
theorem w_c5 : (Jvm.Cond.code ({ cls := "java/util/AbstractCollection", name := "<init>", desc := "()V" } : Jvm.MethodName) jdk_22_method_1_code (1 : Nat) (Option.none : Option Jvm.ClassFile.FieldType)).before args0 about1 = true := code_word (m := ⟨5, 0⟩) (meth := k5m0) (c := k5c0) (by decide +kernel) rfl rfl rfl (by decide +kernel)
set_option maxRecDepth 65536 in
theorem w_c6 : (Jvm.Cond.code ({ cls := "com/example/reserved_delivery/reserveddelivery/broker/Batch", name := "accepts", desc := "(I)Z" } : Jvm.MethodName) prog_9_method_2_code (2 : Nat) (Option.some Jvm.ClassFile.FieldType.boolean)).before args0 about1 = true := code_word (m := ⟨2, 1⟩) (meth := k2m1) (c := k2c1) (by decide +kernel) rfl rfl rfl (by decide +kernel)
set_option maxRecDepth 65536 in
theorem w_c7 : (Jvm.Cond.code ({ cls := "java/util/ArrayList", name := "size", desc := "()I" } : Jvm.MethodName) jdk_38_method_8_code (1 : Nat) (Option.some Jvm.ClassFile.FieldType.int)).before args0 about1 = true := code_word (m := ⟨12, 3⟩) (meth := k12m3) (c := k12c3) (by decide +kernel) rfl rfl rfl (by decide +kernel)
set_option maxRecDepth 65536 in
theorem w_c8 : (Jvm.Cond.code ({ cls := "com/example/reserved_delivery/reserveddelivery/broker/Batch", name := "closed", desc := "()Z" } : Jvm.MethodName) prog_9_method_4_code (1 : Nat) (Option.some Jvm.ClassFile.FieldType.boolean)).before args0 about1 = true := code_word (m := ⟨2, 3⟩) (meth := k2m3) (c := k2c3) (by decide +kernel) rfl rfl rfl (by decide +kernel)
set_option maxRecDepth 65536 in
theorem w_c9 : (Jvm.Cond.code ({ cls := "java/util/ArrayList", name := "isEmpty", desc := "()Z" } : Jvm.MethodName) jdk_38_method_9_code (1 : Nat) (Option.some Jvm.ClassFile.FieldType.boolean)).before args0 about1 = true := code_word (m := ⟨12, 4⟩) (meth := k12m4) (c := k12c4) (by decide +kernel) rfl rfl rfl (by decide +kernel)
set_option maxRecDepth 65536 in
theorem w_c10 : (Jvm.Cond.code ({ cls := "java/lang/Integer", name := "valueOf", desc := "(I)Ljava/lang/Integer;" } : Jvm.MethodName) jdk_33_method_22_code (1 : Nat) (Option.some (Jvm.ClassFile.FieldType.object "java/lang/Integer"))).before args0 about1 = true := code_word (m := ⟨17, 0⟩) (meth := k17m0) (c := k17c0) (by decide +kernel) rfl rfl rfl (by decide +kernel)
set_option maxRecDepth 65536 in
theorem w_c11 : (Jvm.Cond.code ({ cls := "com/example/reserved_delivery/reserveddelivery/broker/Batch", name := "add", desc := "(Ljava/lang/Object;)V" } : Jvm.MethodName) prog_9_method_3_code (2 : Nat) (Option.none : Option Jvm.ClassFile.FieldType)).before args0 about1 = true := code_word (m := ⟨2, 2⟩) (meth := k2m2) (c := k2c2) (by decide +kernel) rfl rfl rfl (by decide +kernel)
set_option maxRecDepth 65536 in
theorem w_c12 : (Jvm.Cond.code ({ cls := "java/util/ArrayList", name := "add", desc := "(Ljava/lang/Object;)Z" } : Jvm.MethodName) jdk_38_method_25_code (2 : Nat) (Option.some Jvm.ClassFile.FieldType.boolean)).before args0 about1 = true := code_word (m := ⟨12, 6⟩) (meth := k12m6) (c := k12c6) (by decide +kernel) rfl rfl rfl (by decide +kernel)
set_option maxRecDepth 65536 in
theorem w_c13 : (Jvm.Cond.code ({ cls := "java/util/ArrayList", name := "add", desc := "(Ljava/lang/Object;[Ljava/lang/Object;I)V" } : Jvm.MethodName) jdk_38_method_24_code (4 : Nat) (Option.none : Option Jvm.ClassFile.FieldType)).before args0 about1 = true := code_word (m := ⟨12, 5⟩) (meth := k12m5) (c := k12c5) (by decide +kernel) rfl rfl rfl (by decide +kernel)
set_option maxRecDepth 65536 in
theorem w_c14 : (Jvm.Cond.code ({ cls := "java/util/ArrayList", name := "grow", desc := "()[Ljava/lang/Object;" } : Jvm.MethodName) jdk_38_method_7_code (1 : Nat) (Option.some (Jvm.ClassFile.FieldType.array (Jvm.ClassFile.FieldType.object "java/lang/Object")))).before args0 about1 = true := code_word (m := ⟨12, 2⟩) (meth := k12m2) (c := k12c2) (by decide +kernel) rfl rfl rfl (by decide +kernel)
set_option maxRecDepth 65536 in
theorem w_c15 : (Jvm.Cond.code ({ cls := "java/util/ArrayList", name := "grow", desc := "(I)[Ljava/lang/Object;" } : Jvm.MethodName) jdk_38_method_6_code (4 : Nat) (Option.some (Jvm.ClassFile.FieldType.array (Jvm.ClassFile.FieldType.object "java/lang/Object")))).before args0 about1 = true := code_word (m := ⟨12, 1⟩) (meth := k12m1) (c := k12c1) (by decide +kernel) rfl rfl rfl (by decide +kernel)
set_option maxRecDepth 65536 in
theorem w_c16 : (Jvm.Cond.code ({ cls := "java/lang/Math", name := "max", desc := "(II)I" } : Jvm.MethodName) jdk_29_method_65_code (2 : Nat) (Option.some Jvm.ClassFile.FieldType.int)).before args0 about1 = true := code_word (m := ⟨19, 1⟩) (meth := k19m1) (c := k19c1) (by decide +kernel) rfl rfl rfl (by decide +kernel)
def codes1 : List Jvm.Cond := [Jvm.Cond.code x code maxLocals ret, Jvm.Cond.code ({ cls := "com/example/reserved_delivery/reserveddelivery/broker/Batch", name := "<init>", desc := "(IJ)V" } : Jvm.MethodName) prog_9_method_1_code (4 : Nat) (Option.none : Option Jvm.ClassFile.FieldType), Jvm.Cond.code ({ cls := "java/lang/Object", name := "<init>", desc := "()V" } : Jvm.MethodName) object_method_1_code (1 : Nat) (Option.none : Option Jvm.ClassFile.FieldType), Jvm.Cond.code ({ cls := "java/util/ArrayList", name := "<init>", desc := "()V" } : Jvm.MethodName) jdk_38_method_2_code (1 : Nat) (Option.none : Option Jvm.ClassFile.FieldType), Jvm.Cond.code ({ cls := "java/util/AbstractList", name := "<init>", desc := "()V" } : Jvm.MethodName) jdk_39_method_1_code (1 : Nat) (Option.none : Option Jvm.ClassFile.FieldType), Jvm.Cond.code ({ cls := "java/util/AbstractCollection", name := "<init>", desc := "()V" } : Jvm.MethodName) jdk_22_method_1_code (1 : Nat) (Option.none : Option Jvm.ClassFile.FieldType), Jvm.Cond.code ({ cls := "com/example/reserved_delivery/reserveddelivery/broker/Batch", name := "accepts", desc := "(I)Z" } : Jvm.MethodName) prog_9_method_2_code (2 : Nat) (Option.some Jvm.ClassFile.FieldType.boolean), Jvm.Cond.code ({ cls := "java/util/ArrayList", name := "size", desc := "()I" } : Jvm.MethodName) jdk_38_method_8_code (1 : Nat) (Option.some Jvm.ClassFile.FieldType.int), Jvm.Cond.code ({ cls := "com/example/reserved_delivery/reserveddelivery/broker/Batch", name := "closed", desc := "()Z" } : Jvm.MethodName) prog_9_method_4_code (1 : Nat) (Option.some Jvm.ClassFile.FieldType.boolean), Jvm.Cond.code ({ cls := "java/util/ArrayList", name := "isEmpty", desc := "()Z" } : Jvm.MethodName) jdk_38_method_9_code (1 : Nat) (Option.some Jvm.ClassFile.FieldType.boolean), Jvm.Cond.code ({ cls := "java/lang/Integer", name := "valueOf", desc := "(I)Ljava/lang/Integer;" } : Jvm.MethodName) jdk_33_method_22_code (1 : Nat) (Option.some (Jvm.ClassFile.FieldType.object "java/lang/Integer")), Jvm.Cond.code ({ cls := "com/example/reserved_delivery/reserveddelivery/broker/Batch", name := "add", desc := "(Ljava/lang/Object;)V" } : Jvm.MethodName) prog_9_method_3_code (2 : Nat) (Option.none : Option Jvm.ClassFile.FieldType), Jvm.Cond.code ({ cls := "java/util/ArrayList", name := "add", desc := "(Ljava/lang/Object;)Z" } : Jvm.MethodName) jdk_38_method_25_code (2 : Nat) (Option.some Jvm.ClassFile.FieldType.boolean), Jvm.Cond.code ({ cls := "java/util/ArrayList", name := "add", desc := "(Ljava/lang/Object;[Ljava/lang/Object;I)V" } : Jvm.MethodName) jdk_38_method_24_code (4 : Nat) (Option.none : Option Jvm.ClassFile.FieldType), Jvm.Cond.code ({ cls := "java/util/ArrayList", name := "grow", desc := "()[Ljava/lang/Object;" } : Jvm.MethodName) jdk_38_method_7_code (1 : Nat) (Option.some (Jvm.ClassFile.FieldType.array (Jvm.ClassFile.FieldType.object "java/lang/Object"))), Jvm.Cond.code ({ cls := "java/util/ArrayList", name := "grow", desc := "(I)[Ljava/lang/Object;" } : Jvm.MethodName) jdk_38_method_6_code (4 : Nat) (Option.some (Jvm.ClassFile.FieldType.array (Jvm.ClassFile.FieldType.object "java/lang/Object"))), Jvm.Cond.code ({ cls := "java/lang/Math", name := "max", desc := "(II)I" } : Jvm.MethodName) jdk_29_method_65_code (2 : Nat) (Option.some Jvm.ClassFile.FieldType.int)]
set_option maxRecDepth 65536 in
theorem codes_eq : words1.filter isCode = codes1 := rfl
theorem w_codes : ∀ c ∈ words1.filter isCode, c.before args0 about1 = true := by
  rw [codes_eq]
  intro c hc
  simp only [codes1, List.mem_cons, List.not_mem_nil, or_false] at hc
  rcases hc with rfl | rfl | rfl | rfl | rfl | rfl | rfl | rfl | rfl | rfl | rfl | rfl | rfl | rfl | rfl | rfl | rfl
  · exact w_c0
  · exact w_c1
  · exact w_c2
  · exact w_c3
  · exact w_c4
  · exact w_c5
  · exact w_c6
  · exact w_c7
  · exact w_c8
  · exact w_c9
  · exact w_c10
  · exact w_c11
  · exact w_c12
  · exact w_c13
  · exact w_c14
  · exact w_c15
  · exact w_c16
set_option maxRecDepth 65536 in
theorem w_t1 : (words1.take 24).all (fun c => isCode c || c.before args0 about1) = true := by decide +kernel
set_option maxRecDepth 65536 in
theorem w_t2 : ((words1.drop 24).take 24).all (fun c => isCode c || c.before args0 about1) = true := by decide +kernel
set_option maxRecDepth 65536 in
theorem w_t3 : (((words1.drop 24).drop 24).take 24).all (fun c => isCode c || c.before args0 about1) = true := by decide +kernel
set_option maxRecDepth 65536 in
theorem w_t4 : ((((words1.drop 24).drop 24).drop 24).take 24).all (fun c => isCode c || c.before args0 about1) = true := by decide +kernel
set_option maxRecDepth 65536 in
theorem w_t5 : ((((words1.drop 24).drop 24).drop 24).drop 24).all (fun c => isCode c || c.before args0 about1) = true := by decide +kernel
theorem w_tables : (allAtoms (Jvm.Cond.code x code maxLocals ret :: tables_1)).before args0 about1 = true := by
  rw [allAtoms_all]
  show words1.all (fun c => c.before args0 about1) = true
  refine all_split ?_ w_codes
  rw [← List.take_append_drop 24 words1, List.all_append, w_t1, ← List.take_append_drop 24 (words1.drop 24), List.all_append, w_t2, ← List.take_append_drop 24 ((words1.drop 24).drop 24), List.all_append, w_t3, ← List.take_append_drop 24 (((words1.drop 24).drop 24).drop 24), List.all_append, w_t4, w_t5]
  rfl
set_option maxRecDepth 65536 in
theorem w_rest : rest_1_c.before args0 about1 = true := by decide +kernel
set_option maxRecDepth 65536 in
theorem w_case : (Jvm.Cond.and given_1 narrow_1).before args0 about1 = true := by decide +kernel
theorem w_applies : (headSpec (Jvm.Cond.code x code maxLocals ret :: tables_1) room_1).applies x e0.platform about1 = true :=
  (Spec.applies_iff w_frames).mpr ⟨w_running, w_runnable, w_alone, w_named, w_hears, w_ripe, w_room, w_tables⟩
theorem atStart : AtStart classFile x code maxLocals ret World_1 tables_1 room_1 Calls_1 rest_1 Pre_1 launch0 p0 e0 about1 theMethod args0 below0 :=
  ⟨lists_1, trivial, launch0.admits_env _ _ _, launch0.least_env, fairChoices_fair.cas, fairChoices_fair.clock, w_frames, w_args, w_heap, w_applies, trivial, w_rest, w_case⟩
end start1
theorem witness_1 : WitnessClaimed_1 := ⟨start1.p0, start1.e0, start1.about1, start1.theMethod, start1.args0, start1.below0, start1.atStart⟩
end Jvm.Pilot.@@N@@
