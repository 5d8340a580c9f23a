import JvmDerived
import JvmDerived.Pilot.@@N@@Statement
import JvmDerived.Pilot.@@N@@Code
set_option linter.unusedVariables false
set_option linter.unusedSimpArgs false
namespace Jvm.Own
open Sem ClassFile Op Lib Jvm.Stand Jvm.Free Jvm.LawKit Jvm.RoadKit
/-! THE OWN LAYER: a walk as a predicate on (heap, cells spent, slots spent, pc, locals, stack); each step is one rule 'what follows holds there -> what is asked holds here'. -/
abbrev Wk := Heap → Nat → Nat → Nat → Array Slot → List Value → Prop
def Ends (Z s : State) (R : Room) (Q : Option Value → Heap → Prop) (o : Outcome) (u : State) : Prop :=
  ∃ v L, o = .returned v ∧ (Q v u.heap ∧ Ext Z.heap u.heap ∧ Fr Z.heap.size L) ∧ FrameEnd s o u L R.cells R.slots
def Run (p : Program) (l : Launch) (e : Env) (R : Room) (s : State) (m : MethodId) (args : Array Value) (below : List Frame) (meth : Method) (c : Code) (Z : State) (Q : Option Value → Heap → Prop) : Wk := fun h k n pc Ls st =>
  Ext Z.heap h → ∀ T locs, Stand p l e R s m args below meth c T locs k n → T.heap = h → Fr Z.heap.size locs →
    ∃ u o, Steps p.tables e below (T.setTop (mkF m pc Ls st)) u ∧ u.status = .running ∧ Ended u below o ∧ Ends Z s R Q o u
def Ok (p : Program) (s : State) (m : MethodId) (meth : Method) (c : Code) (Z : State) (a0 : Array Value) (tb : List Jvm.Cond) (own : String) (code : ByteArray) (ml : Nat) (rt : Option FieldType) (nm : String) : Prop :=
  p.tables.exec = Jvm.exec ∧ c.code = code ∧ c.maxLocals = ml ∧ s.vm.findClass own = some m.cls ∧ meth.sig.returnType = rt ∧ meth.locks = false ∧ Z.Warmed39 s.vm ∧ meth.name = nm ∧ (∀ d ∈ tb, d.before a0 Z = true)
def Walk (W : Wk) (l : Launch) (Z : State) (a0 : Array Value) (tb : List Jvm.Cond) (own : String) (code : ByteArray) (ml : Nat) (rt : Option FieldType) (nm : String) (R : Room) (Q : Option Value → Heap → Prop) : Prop :=
  ∃ p e s m args below meth c, W = Run p l e R s m args below meth c Z Q ∧ Ok p s m meth c Z a0 tb own code ml rt nm
/-- what a method does, called on these arguments over this heap -/
def Con (l : Launch) (Z : State) (y : MethodName) (code : ByteArray) (ml : Nat) (rt : Option FieldType) (rm : Room) (as : Array Value) (h : Heap) (Q : Option Value → Heap → Prop) : Prop :=
  Ext Z.heap h → ∀ ws, MetFree l y (head1 (Jvm.Cond.code y code ml rt :: ws) rm) (fun a U => a = as ∧ Z.Warmed39 U.vm ∧ U.heap = h) (fun _ _ _ _ _ => True) (fun _ U o U' => Ends Z U rm Q o U')
/-- it returns v and the heap stands as it was -/
def Same (v : Option Value) (h : Heap) : Option Value → Heap → Prop := fun v' h' => v' = v ∧ h' = h
theorem same_intro {v : Option Value} {h : Heap} {P : Option Value → Heap → Prop} (K : P v h) : ∀ v' h', Same v h v' h' → P v' h' := by
  rintro _ _ ⟨rfl, rfl⟩; exact K
theorem Con.of {l : Launch} {Z : State} {a0 : Array Value} {tb : List Jvm.Cond} {y : MethodName} {code : ByteArray} {ml : Nat} {rt : Option FieldType} {rm : Room} {as : Array Value} {h : Heap} {Q : Option Value → Heap → Prop} {Ls : Array Slot}
    (hw : ∀ d ∈ tb, d.before a0 Z = true) (hpn : plainFor y = true) (hef : ∀ m, entryFrame m as ml = mkF m 0 Ls []) (H : ∀ W : Wk, Walk W l Z a0 tb y.cls code ml rt y.name rm Q → W h 0 0 0 Ls []) : Con l Z y code ml rt rm as h Q := by
  intro hE ws
  refine MetFree.of_bodySF hpn hisR ?_
  intro p e s m args below meth c s₁ Bd hml0 hP hK
  obtain ⟨rfl, hZ, hh⟩ := hP
  have X0 : Stand p l e rm s m args below meth c s₁ [] 0 0 := Stand.of_body Bd
  have e0 : s₁.heap = h := by rw [← hh, Bd.state]; rfl
  obtain ⟨u, o, h1, h2, h3, h4⟩ := H _ ⟨p, e, s, m, args, below, meth, c, rfl, Bd.exec, Bd.bytes, hml0, findClass_of_methodNamed Bd.named, Bd.returns, BodyLoose.notSynchronized Bd, hZ, (name_of_methodNamed Bd.named Bd.method).1, hw⟩ hE s₁ [] X0 e0 (Fr.nil _)
  exact ⟨u, o, castTop (hef m) h1, h2, h3, h4⟩
section Rules
variable {W : Wk} {l : Launch} {Z : State} {a0 : Array Value} {tb : List Jvm.Cond} {own : String} {code : ByteArray} {ml : Nat} {rt : Option FieldType} {nm : String} {R : Room} {Q : Option Value → Heap → Prop} {h : Heap} {k n pc : Nat} {Ls : Array Slot} {st : List Value}
theorem Walk.word (C : Walk W l Z a0 tb own code ml rt nm R Q) {d : Jvm.Cond} (q : d ∈ tb) : d.before a0 Z = true := by
  obtain ⟨p, e, s, m, args, below, meth, c, rfl, ok⟩ := C
  exact ok.2.2.2.2.2.2.2.2 d q
theorem Walk.more (C : Walk W l Z a0 tb own code ml rt nm R Q) {k' n' : Nat} (hk : k ≤ k') (hn : n ≤ n') (K : W h k' n' pc Ls st) : W h k n pc Ls st := by
  obtain ⟨p, e, s, m, args, below, meth, c, rfl, ok⟩ := C
  exact fun hE T locs X eT N => K hE T locs (X.more hk hn) eT N
theorem Walk.kept (C : Walk W l Z a0 tb own code ml rt nm R Q) (K : Ext Z.heap h → W h k n pc Ls st) : W h k n pc Ls st := by
  obtain ⟨p, e, s, m, args, below, meth, c, rfl, ok⟩ := C
  exact fun hE => K hE hE
/-- a step that moves neither heap nor tables -/
theorem Walk.plain (C : Walk W l Z a0 tb own code ml rt nm R Q) {pc' : Nat} {Ls' : Array Slot} {st' : List Value}
    (S : ∀ {tb' : Tables} [Ours tb'] {e : Env} {below : List Frame} {T target : State} {m : MethodId} {c : Code}, At T m c below → tb'.exec = Jvm.exec → c.code = code → Steps tb' e below (T.setTop (mkF m pc' Ls' st')) target → Steps tb' e below (T.setTop (mkF m pc Ls st)) target)
    (K : W h k n pc' Ls' st') : W h k n pc Ls st := by
  obtain ⟨p, e, s, m, args, below, meth, c, rfl, ok⟩ := C
  intro hE T locs X eT N
  obtain ⟨u, o, h1, h2⟩ := K hE T locs X eT N
  exact ⟨u, o, S X.here ok.1 ok.2.1 h1, h2⟩
theorem Walk.iloadN (C : Walk W l Z a0 tb own code ml rt nm R Q) (pc' : Nat) {i : Fin 4} {v : Int32} (hd : decode code pc = .ok (.iload_n i, 1)) (hp : pc' = pc + 1) (hl : Ls[i.val]? = some (.val (.int v))) (K : W h k n pc' Ls (.int v :: st)) : W h k n pc Ls st := by
  subst hp; exact C.plain (fun hA hx hb' hr => XS.iloadN hA hx rfl (hb hb' hd) hl hr) K
theorem Walk.iload (C : Walk W l Z a0 tb own code ml rt nm R Q) (pc' : Nat) {i : Nat} {v : Int32} (hd : decode code pc = .ok (.iload i, 2)) (hp : pc' = pc + 2) (hl : Ls[i]? = some (.val (.int v))) (K : W h k n pc' Ls (.int v :: st)) : W h k n pc Ls st := by
  subst hp; exact C.plain (fun hA hx hb' hr => XS.iload hA hx rfl (hb hb' hd) hl hr) K
theorem Walk.lloadN (C : Walk W l Z a0 tb own code ml rt nm R Q) (pc' : Nat) {i : Fin 4} {v : Int64} (hd : decode code pc = .ok (.lload_n i, 1)) (hp : pc' = pc + 1) (hl : Ls[i.val]? = some (.val (.long v))) (K : W h k n pc' Ls (.long v :: st)) : W h k n pc Ls st := by
  subst hp; exact C.plain (fun hA hx hb' hr => XT.lloadN hA hx rfl (hb hb' hd) hl hr) K
theorem Walk.lload (C : Walk W l Z a0 tb own code ml rt nm R Q) (pc' : Nat) {i : Nat} {v : Int64} (hd : decode code pc = .ok (.lload i, 2)) (hp : pc' = pc + 2) (hl : Ls[i]? = some (.val (.long v))) (K : W h k n pc' Ls (.long v :: st)) : W h k n pc Ls st := by
  subst hp; exact C.plain (fun hA hx hb' hr => XT.lload hA hx rfl (hb hb' hd) hl hr) K
theorem Walk.aloadN (C : Walk W l Z a0 tb own code ml rt nm R Q) (pc' : Nat) {i : Fin 4} {v : Value} (hd : decode code pc = .ok (.aload_n i, 1)) (hp : pc' = pc + 1) (hl : Ls[i.val]? = some (.val v)) (hv : v.isRef = true) (K : W h k n pc' Ls (v :: st)) : W h k n pc Ls st := by
  subst hp; exact C.plain (fun hA hx hb' hr => XS.aloadN hA hx rfl (hb hb' hd) hl hv hr) K
theorem Walk.aload (C : Walk W l Z a0 tb own code ml rt nm R Q) (pc' : Nat) {i : Nat} {v : Value} (hd : decode code pc = .ok (.aload i, 2)) (hp : pc' = pc + 2) (hl : Ls[i]? = some (.val v)) (hv : v.isRef = true) (K : W h k n pc' Ls (v :: st)) : W h k n pc Ls st := by
  subst hp; exact C.plain (fun hA hx hb' hr => XS.aload hA hx rfl (hb hb' hd) hl hv hr) K
theorem Walk.istoreN (C : Walk W l Z a0 tb own code ml rt nm R Q) (pc' : Nat) (Ls' : Array Slot) {i : Fin 4} {x : Int32} (hd : decode code pc = .ok (.istore_n i, 1)) (hp : pc' = pc + 1) (hl : storeLocals Ls i.val (.int x) = some Ls') (K : W h k n pc' Ls' st) : W h k n pc Ls (.int x :: st) := by
  subst hp; exact C.plain (fun hA hx hb' hr => XS.istoreN hA hx rfl (hb hb' hd) rfl hl hr) K
theorem Walk.istore (C : Walk W l Z a0 tb own code ml rt nm R Q) (pc' : Nat) (Ls' : Array Slot) {i : Nat} {x : Int32} (hd : decode code pc = .ok (.istore i, 2)) (hp : pc' = pc + 2) (hl : storeLocals Ls i (.int x) = some Ls') (K : W h k n pc' Ls' st) : W h k n pc Ls (.int x :: st) := by
  subst hp; exact C.plain (fun hA hx hb' hr => XS.istore hA hx rfl (hb hb' hd) rfl hl hr) K
theorem Walk.lstoreN (C : Walk W l Z a0 tb own code ml rt nm R Q) (pc' : Nat) (Ls' : Array Slot) {i : Fin 4} {x : Int64} (hd : decode code pc = .ok (.lstore_n i, 1)) (hp : pc' = pc + 1) (hl : storeLocals Ls i.val (.long x) = some Ls') (K : W h k n pc' Ls' st) : W h k n pc Ls (.long x :: st) := by
  subst hp; exact C.plain (fun hA hx hb' hr => XT.lstoreN hA hx rfl (hb hb' hd) rfl hl hr) K
theorem Walk.lstore (C : Walk W l Z a0 tb own code ml rt nm R Q) (pc' : Nat) (Ls' : Array Slot) {i : Nat} {x : Int64} (hd : decode code pc = .ok (.lstore i, 2)) (hp : pc' = pc + 2) (hl : storeLocals Ls i (.long x) = some Ls') (K : W h k n pc' Ls' st) : W h k n pc Ls (.long x :: st) := by
  subst hp; exact C.plain (fun hA hx hb' hr => XT.lstore hA hx rfl (hb hb' hd) rfl hl hr) K
theorem Walk.astoreN (C : Walk W l Z a0 tb own code ml rt nm R Q) (pc' : Nat) (Ls' : Array Slot) {i : Fin 4} {x : Value} (hd : decode code pc = .ok (.astore_n i, 1)) (hp : pc' = pc + 1) (hv : x.isRef = true) (hl : storeLocals Ls i.val x = some Ls') (K : W h k n pc' Ls' st) : W h k n pc Ls (x :: st) := by
  subst hp; exact C.plain (fun hA hx hb' hr => XS.astoreN hA hx rfl (hb hb' hd) rfl hv hl hr) K
theorem Walk.astore (C : Walk W l Z a0 tb own code ml rt nm R Q) (pc' : Nat) (Ls' : Array Slot) {i : Nat} {x : Value} (hd : decode code pc = .ok (.astore i, 2)) (hp : pc' = pc + 2) (hv : x.isRef = true) (hl : storeLocals Ls i x = some Ls') (K : W h k n pc' Ls' st) : W h k n pc Ls (x :: st) := by
  subst hp; exact C.plain (fun hA hx hb' hr => XS.astore hA hx rfl (hb hb' hd) rfl hv hl hr) K
theorem Walk.iconst (C : Walk W l Z a0 tb own code ml rt nm R Q) (pc' : Nat) (v : Int32) {i : Int} (hd : decode code pc = .ok (.iconst i, 1)) (hp : pc' = pc + 1) (hv : Int32.ofInt i = v) (K : W h k n pc' Ls (.int v :: st)) : W h k n pc Ls st := by
  subst hp hv; exact C.plain (fun hA hx hb' hr => XS.iconst hA hx rfl (hb hb' hd) hr) K
theorem Walk.bipush (C : Walk W l Z a0 tb own code ml rt nm R Q) (pc' : Nat) (v : Int32) {i : Int} (hd : decode code pc = .ok (.bipush i, 2)) (hp : pc' = pc + 2) (hv : (Int8.ofInt i).toInt32 = v) (K : W h k n pc' Ls (.int v :: st)) : W h k n pc Ls st := by
  subst hp hv; exact C.plain (fun hA hx hb' hr => XS.bipush hA hx rfl (hb hb' hd) hr) K
theorem Walk.sipush (C : Walk W l Z a0 tb own code ml rt nm R Q) (pc' : Nat) (v : Int32) {i : Int} (hd : decode code pc = .ok (.sipush i, 3)) (hp : pc' = pc + 3) (hv : (Int16.ofInt i).toInt32 = v) (K : W h k n pc' Ls (.int v :: st)) : W h k n pc Ls st := by
  subst hp hv; exact C.plain (fun hA hx hb' hr => XS.sipush hA hx rfl (hb hb' hd) hr) K
theorem Walk.lconst (C : Walk W l Z a0 tb own code ml rt nm R Q) (pc' : Nat) (v : Int64) {i : Fin 2} (hd : decode code pc = .ok (.lconst i, 1)) (hp : pc' = pc + 1) (hv : Int64.ofNat i = v) (K : W h k n pc' Ls (.long v :: st)) : W h k n pc Ls st := by
  subst hp hv; exact C.plain (fun hA hx hb' hr => XT.lconst hA hx rfl (hb hb' hd) hr) K
theorem Walk.aconstNull (C : Walk W l Z a0 tb own code ml rt nm R Q) (pc' : Nat) (hd : decode code pc = .ok (.aconst_null, 1)) (hp : pc' = pc + 1) (K : W h k n pc' Ls (.null :: st)) : W h k n pc Ls st := by
  subst hp; exact C.plain (fun hA hx hb' hr => XS.aconstNull hA hx rfl (hb hb' hd) hr) K
theorem Walk.iadd (C : Walk W l Z a0 tb own code ml rt nm R Q) (pc' : Nat) {x y : Int32} (hd : decode code pc = .ok (.iadd, 1)) (hp : pc' = pc + 1) (K : W h k n pc' Ls (.int (x + y) :: st)) : W h k n pc Ls (.int y :: .int x :: st) := by
  subst hp; exact C.plain (fun hA hx hb' hr => XS.iadd hA hx rfl (hb hb' hd) rfl hr) K
theorem Walk.isub (C : Walk W l Z a0 tb own code ml rt nm R Q) (pc' : Nat) {x y : Int32} (hd : decode code pc = .ok (.isub, 1)) (hp : pc' = pc + 1) (K : W h k n pc' Ls (.int (x - y) :: st)) : W h k n pc Ls (.int y :: .int x :: st) := by
  subst hp; exact C.plain (fun hA hx hb' hr => XS.isub hA hx rfl (hb hb' hd) rfl hr) K
theorem Walk.iand (C : Walk W l Z a0 tb own code ml rt nm R Q) (pc' : Nat) {x y : Int32} (hd : decode code pc = .ok (.iand, 1)) (hp : pc' = pc + 1) (K : W h k n pc' Ls (.int (x &&& y) :: st)) : W h k n pc Ls (.int y :: .int x :: st) := by
  subst hp; exact C.plain (fun hA hx hb' hr => XS.iand hA hx rfl (hb hb' hd) rfl hr) K
theorem Walk.imul (C : Walk W l Z a0 tb own code ml rt nm R Q) (pc' : Nat) {x y : Int32} (hd : decode code pc = .ok (.imul, 1)) (hp : pc' = pc + 1) (K : W h k n pc' Ls (.int (x * y) :: st)) : W h k n pc Ls (.int y :: .int x :: st) := by
  subst hp; exact C.plain (fun hA hx hb' hr => XS.imul hA hx rfl (hb hb' hd) rfl hr) K
theorem Walk.ixor (C : Walk W l Z a0 tb own code ml rt nm R Q) (pc' : Nat) {x y : Int32} (hd : decode code pc = .ok (.ixor, 1)) (hp : pc' = pc + 1) (K : W h k n pc' Ls (.int (x ^^^ y) :: st)) : W h k n pc Ls (.int y :: .int x :: st) := by
  subst hp; exact C.plain (fun hA hx hb' hr => XT.ixor hA hx rfl (hb hb' hd) rfl hr) K
theorem Walk.ior (C : Walk W l Z a0 tb own code ml rt nm R Q) (pc' : Nat) {x y : Int32} (hd : decode code pc = .ok (.ior, 1)) (hp : pc' = pc + 1) (K : W h k n pc' Ls (.int (x ||| y) :: st)) : W h k n pc Ls (.int y :: .int x :: st) := by
  subst hp; exact C.plain (fun hA hx hb' hr => XT.ior hA hx rfl (hb hb' hd) rfl hr) K
theorem Walk.ishl (C : Walk W l Z a0 tb own code ml rt nm R Q) (pc' : Nat) {x y : Int32} (hd : decode code pc = .ok (.ishl, 1)) (hp : pc' = pc + 1) (K : W h k n pc' Ls (.int (x <<< (y &&& 31)) :: st)) : W h k n pc Ls (.int y :: .int x :: st) := by
  subst hp; exact C.plain (fun hA hx hb' hr => XT.ishl hA hx rfl (hb hb' hd) rfl hr) K
theorem Walk.ishr (C : Walk W l Z a0 tb own code ml rt nm R Q) (pc' : Nat) {x y : Int32} (hd : decode code pc = .ok (.ishr, 1)) (hp : pc' = pc + 1) (K : W h k n pc' Ls (.int (x >>> (y &&& 31)) :: st)) : W h k n pc Ls (.int y :: .int x :: st) := by
  subst hp; exact C.plain (fun hA hx hb' hr => XT.ishr hA hx rfl (hb hb' hd) rfl hr) K
theorem Walk.iushr (C : Walk W l Z a0 tb own code ml rt nm R Q) (pc' : Nat) {x y : Int32} (hd : decode code pc = .ok (.iushr, 1)) (hp : pc' = pc + 1) (K : W h k n pc' Ls (.int (XT.ushr x y) :: st)) : W h k n pc Ls (.int y :: .int x :: st) := by
  subst hp; exact C.plain (fun hA hx hb' hr => XT.iushr hA hx rfl (hb hb' hd) rfl hr) K
theorem Walk.ladd (C : Walk W l Z a0 tb own code ml rt nm R Q) (pc' : Nat) {x y : Int64} (hd : decode code pc = .ok (.ladd, 1)) (hp : pc' = pc + 1) (K : W h k n pc' Ls (.long (x + y) :: st)) : W h k n pc Ls (.long y :: .long x :: st) := by
  subst hp; exact C.plain (fun hA hx hb' hr => XT.ladd hA hx rfl (hb hb' hd) rfl hr) K
theorem Walk.lsub (C : Walk W l Z a0 tb own code ml rt nm R Q) (pc' : Nat) {x y : Int64} (hd : decode code pc = .ok (.lsub, 1)) (hp : pc' = pc + 1) (K : W h k n pc' Ls (.long (x - y) :: st)) : W h k n pc Ls (.long y :: .long x :: st) := by
  subst hp; exact C.plain (fun hA hx hb' hr => XT.lsub hA hx rfl (hb hb' hd) rfl hr) K
theorem Walk.lmul (C : Walk W l Z a0 tb own code ml rt nm R Q) (pc' : Nat) {x y : Int64} (hd : decode code pc = .ok (.lmul, 1)) (hp : pc' = pc + 1) (K : W h k n pc' Ls (.long (x * y) :: st)) : W h k n pc Ls (.long y :: .long x :: st) := by
  subst hp; exact C.plain (fun hA hx hb' hr => XT.lmul hA hx rfl (hb hb' hd) rfl hr) K
theorem Walk.land (C : Walk W l Z a0 tb own code ml rt nm R Q) (pc' : Nat) {x y : Int64} (hd : decode code pc = .ok (.land, 1)) (hp : pc' = pc + 1) (K : W h k n pc' Ls (.long (x &&& y) :: st)) : W h k n pc Ls (.long y :: .long x :: st) := by
  subst hp; exact C.plain (fun hA hx hb' hr => XT.land hA hx rfl (hb hb' hd) rfl hr) K
theorem Walk.lor (C : Walk W l Z a0 tb own code ml rt nm R Q) (pc' : Nat) {x y : Int64} (hd : decode code pc = .ok (.lor, 1)) (hp : pc' = pc + 1) (K : W h k n pc' Ls (.long (x ||| y) :: st)) : W h k n pc Ls (.long y :: .long x :: st) := by
  subst hp; exact C.plain (fun hA hx hb' hr => XT.lor hA hx rfl (hb hb' hd) rfl hr) K
theorem Walk.lxor (C : Walk W l Z a0 tb own code ml rt nm R Q) (pc' : Nat) {x y : Int64} (hd : decode code pc = .ok (.lxor, 1)) (hp : pc' = pc + 1) (K : W h k n pc' Ls (.long (x ^^^ y) :: st)) : W h k n pc Ls (.long y :: .long x :: st) := by
  subst hp; exact C.plain (fun hA hx hb' hr => XT.lxor hA hx rfl (hb hb' hd) rfl hr) K
theorem Walk.lcmp (C : Walk W l Z a0 tb own code ml rt nm R Q) (pc' : Nat) {x y : Int64} (hd : decode code pc = .ok (.lcmp, 1)) (hp : pc' = pc + 1) (K : W h k n pc' Ls (.int (XT.cmpL x y) :: st)) : W h k n pc Ls (.long y :: .long x :: st) := by
  subst hp; exact C.plain (fun hA hx hb' hr => XT.lcmp hA hx rfl (hb hb' hd) rfl hr) K
theorem Walk.idiv (C : Walk W l Z a0 tb own code ml rt nm R Q) (pc' : Nat) {x y : Int32} (hd : decode code pc = .ok (.idiv, 1)) (hp : pc' = pc + 1) (hy : y ≠ 0) (K : W h k n pc' Ls (.int (x / y) :: st)) : W h k n pc Ls (.int y :: .int x :: st) := by
  subst hp; exact C.plain (fun hA hx hb' hr => XS.idiv hA hx rfl (hb hb' hd) rfl hy hr) K
theorem Walk.irem (C : Walk W l Z a0 tb own code ml rt nm R Q) (pc' : Nat) {x y : Int32} (hd : decode code pc = .ok (.irem, 1)) (hp : pc' = pc + 1) (hy : y ≠ 0) (K : W h k n pc' Ls (.int (x % y) :: st)) : W h k n pc Ls (.int y :: .int x :: st) := by
  subst hp; rw [← irem_eq_mod] at K; exact C.plain (fun hA hx hb' hr => XS.irem hA hx rfl (hb hb' hd) rfl hy hr) K
theorem Walk.i2l (C : Walk W l Z a0 tb own code ml rt nm R Q) (pc' : Nat) {x : Int32} (hd : decode code pc = .ok (.i2l, 1)) (hp : pc' = pc + 1) (K : W h k n pc' Ls (.long x.toInt64 :: st)) : W h k n pc Ls (.int x :: st) := by
  subst hp; exact C.plain (fun hA hx hb' hr => XT.i2l hA hx rfl (hb hb' hd) rfl hr) K
theorem Walk.l2i (C : Walk W l Z a0 tb own code ml rt nm R Q) (pc' : Nat) {x : Int64} (hd : decode code pc = .ok (.l2i, 1)) (hp : pc' = pc + 1) (K : W h k n pc' Ls (.int x.toInt32 :: st)) : W h k n pc Ls (.long x :: st) := by
  subst hp; exact C.plain (fun hA hx hb' hr => XT.l2i hA hx rfl (hb hb' hd) rfl hr) K
theorem Walk.i2b (C : Walk W l Z a0 tb own code ml rt nm R Q) (pc' : Nat) {x : Int32} (hd : decode code pc = .ok (.i2b, 1)) (hp : pc' = pc + 1) (K : W h k n pc' Ls (.int x.toInt8.toInt32 :: st)) : W h k n pc Ls (.int x :: st) := by
  subst hp; exact C.plain (fun hA hx hb' hr => XT.i2b hA hx rfl (hb hb' hd) rfl hr) K
theorem Walk.i2c (C : Walk W l Z a0 tb own code ml rt nm R Q) (pc' : Nat) {x : Int32} (hd : decode code pc = .ok (.i2c, 1)) (hp : pc' = pc + 1) (K : W h k n pc' Ls (.int x.toUInt32.toUInt16.toUInt32.toInt32 :: st)) : W h k n pc Ls (.int x :: st) := by
  subst hp; exact C.plain (fun hA hx hb' hr => XT.i2c hA hx rfl (hb hb' hd) rfl hr) K
theorem Walk.ineg (C : Walk W l Z a0 tb own code ml rt nm R Q) (pc' : Nat) {x : Int32} (hd : decode code pc = .ok (.ineg, 1)) (hp : pc' = pc + 1) (K : W h k n pc' Ls (.int (-x) :: st)) : W h k n pc Ls (.int x :: st) := by
  subst hp; exact C.plain (fun hA hx hb' hr => XS.ineg hA hx rfl (hb hb' hd) rfl hr) K
theorem Walk.dup (C : Walk W l Z a0 tb own code ml rt nm R Q) (pc' : Nat) {x : Value} (hd : decode code pc = .ok (.dup, 1)) (hp : pc' = pc + 1) (hc : x.category = 1) (K : W h k n pc' Ls (x :: x :: st)) : W h k n pc Ls (x :: st) := by
  subst hp; exact C.plain (fun hA hx hb' hr => XS.dup hA hx rfl (hb hb' hd) rfl hc hr) K
theorem Walk.dupX1 (C : Walk W l Z a0 tb own code ml rt nm R Q) (pc' : Nat) {x y : Value} (hd : decode code pc = .ok (.dup_x1, 1)) (hp : pc' = pc + 1) (hc : x.category = 1) (hc' : y.category = 1) (K : W h k n pc' Ls (x :: y :: x :: st)) : W h k n pc Ls (x :: y :: st) := by
  subst hp; exact C.plain (fun hA hx hb' hr => XT.dupX1 hA hx rfl (hb hb' hd) rfl hc hc' hr) K
theorem Walk.dup2 (C : Walk W l Z a0 tb own code ml rt nm R Q) (pc' : Nat) {x y : Value} (hd : decode code pc = .ok (.dup2, 1)) (hp : pc' = pc + 1) (hc : x.category = 1) (hc' : y.category = 1) (K : W h k n pc' Ls (x :: y :: x :: y :: st)) : W h k n pc Ls (x :: y :: st) := by
  subst hp; exact C.plain (fun hA hx hb' hr => XT.dup2 hA hx rfl (hb hb' hd) rfl hc hc' hr) K
theorem Walk.pop (C : Walk W l Z a0 tb own code ml rt nm R Q) (pc' : Nat) {x : Value} (hd : decode code pc = .ok (.pop, 1)) (hp : pc' = pc + 1) (hc : x.category = 1) (K : W h k n pc' Ls st) : W h k n pc Ls (x :: st) := by
  subst hp; exact C.plain (fun hA hx hb' hr => XT.pop hA hx rfl (hb hb' hd) rfl hc hr) K
theorem Walk.iinc (C : Walk W l Z a0 tb own code ml rt nm R Q) (pc' : Nat) (Ls' : Array Slot) {i : Nat} {cst : Int} {x : Int32} (hd : decode code pc = .ok (.iinc i cst, 3)) (hp : pc' = pc + 3) (hl : Ls[i]? = some (.val (.int x))) (hl' : storeLocals Ls i (.int (x + Int32.ofInt cst)) = some Ls') (K : W h k n pc' Ls' st) : W h k n pc Ls st := by
  subst hp; exact C.plain (fun hA hx hb' hr => XS.iinc hA hx rfl (hb hb' hd) hl hl' hr) K
theorem Walk.goto (C : Walk W l Z a0 tb own code ml rt nm R Q) (pc' : Nat) {o : Int} (hd : decode code pc = .ok (.goto o, 3)) (hp : (pc : Int) + o = (pc' : Int)) (K : W h k n pc' Ls st) : W h k n pc Ls st :=
  C.plain (fun hA hx hb' hr => XS.goto hA hx rfl (pc0 := pc) (pc' := pc') rfl (hb hb' hd) (by omega) (by omega) hr) K
theorem Walk.ifT (C : Walk W l Z a0 tb own code ml rt nm R Q) (pc' : Nat) {cd : ClassFile.Cond} {x : Int32} {o : Int} (hd : decode code pc = .ok (.ifCond cd o, 3)) (hp : (pc : Int) + o = (pc' : Int)) (hc : ifCond.holds cd x = true) (K : W h k n pc' Ls st) : W h k n pc Ls (.int x :: st) :=
  C.plain (fun hA hx hb' hr => XS.ifYes hA hx rfl (pc0 := pc) (pc' := pc') rfl (hb hb' hd) rfl hc (by omega) (by omega) hr) K
theorem Walk.ifF (C : Walk W l Z a0 tb own code ml rt nm R Q) (pc' : Nat) {cd : ClassFile.Cond} {x : Int32} {o : Int} (hd : decode code pc = .ok (.ifCond cd o, 3)) (hp : pc' = pc + 3) (hc : ifCond.holds cd x = false) (K : W h k n pc' Ls st) : W h k n pc Ls (.int x :: st) := by
  subst hp; exact C.plain (fun hA hx hb' hr => XS.ifNo hA hx rfl (hb hb' hd) rfl hc hr) K
theorem Walk.icmpT (C : Walk W l Z a0 tb own code ml rt nm R Q) (pc' : Nat) {cd : ClassFile.Cond} {x y : Int32} {o : Int} (hd : decode code pc = .ok (.if_icmp cd o, 3)) (hp : (pc : Int) + o = (pc' : Int)) (hc : if_icmp.holds cd x y = true) (K : W h k n pc' Ls st) : W h k n pc Ls (.int y :: .int x :: st) :=
  C.plain (fun hA hx hb' hr => XS.icmpYes hA hx rfl (pc0 := pc) (pc' := pc') rfl (hb hb' hd) rfl hc (by omega) (by omega) hr) K
theorem Walk.icmpF (C : Walk W l Z a0 tb own code ml rt nm R Q) (pc' : Nat) {cd : ClassFile.Cond} {x y : Int32} {o : Int} (hd : decode code pc = .ok (.if_icmp cd o, 3)) (hp : pc' = pc + 3) (hc : if_icmp.holds cd x y = false) (K : W h k n pc' Ls st) : W h k n pc Ls (.int y :: .int x :: st) := by
  subst hp; exact C.plain (fun hA hx hb' hr => XS.icmpNo hA hx rfl (hb hb' hd) rfl hc hr) K
theorem Walk.acmpT (C : Walk W l Z a0 tb own code ml rt nm R Q) (pc' : Nat) {cd : ClassFile.ACond} {x y : Value} {o : Int} (hd : decode code pc = .ok (.if_acmp cd o, 3)) (hp : (pc : Int) + o = (pc' : Int)) (h1 : x.isRef = true) (h2 : y.isRef = true) (hc : XT.acmp cd x y = true) (K : W h k n pc' Ls st) : W h k n pc Ls (y :: x :: st) :=
  C.plain (fun hA hx hb' hr => XT.acmpYes hA hx rfl (pc0 := pc) (pc' := pc') rfl (hb hb' hd) rfl h1 h2 hc (by omega) (by omega) hr) K
theorem Walk.acmpF (C : Walk W l Z a0 tb own code ml rt nm R Q) (pc' : Nat) {cd : ClassFile.ACond} {x y : Value} {o : Int} (hd : decode code pc = .ok (.if_acmp cd o, 3)) (hp : pc' = pc + 3) (h1 : x.isRef = true) (h2 : y.isRef = true) (hc : XT.acmp cd x y = false) (K : W h k n pc' Ls st) : W h k n pc Ls (y :: x :: st) := by
  subst hp; exact C.plain (fun hA hx hb' hr => XT.acmpNo hA hx rfl (hb hb' hd) rfl h1 h2 hc hr) K
theorem Walk.ifnullT (C : Walk W l Z a0 tb own code ml rt nm R Q) (pc' : Nat) {o : Int} (hd : decode code pc = .ok (.ifnull o, 3)) (hp : (pc : Int) + o = (pc' : Int)) (K : W h k n pc' Ls st) : W h k n pc Ls (.null :: st) :=
  C.plain (fun hA hx hb' hr => XS.ifnullYes hA hx rfl (pc0 := pc) (pc' := pc') rfl (hb hb' hd) rfl (by omega) (by omega) hr) K
theorem Walk.ifnullF (C : Walk W l Z a0 tb own code ml rt nm R Q) (pc' : Nat) {b : Addr} {o : Int} (hd : decode code pc = .ok (.ifnull o, 3)) (hp : pc' = pc + 3) (K : W h k n pc' Ls st) : W h k n pc Ls (.ref b :: st) := by
  subst hp; exact C.plain (fun hA hx hb' hr => XS.ifnullNo hA hx rfl (hb hb' hd) rfl hr) K
theorem Walk.ifnonnullT (C : Walk W l Z a0 tb own code ml rt nm R Q) (pc' : Nat) {b : Addr} {o : Int} (hd : decode code pc = .ok (.ifnonnull o, 3)) (hp : (pc : Int) + o = (pc' : Int)) (K : W h k n pc' Ls st) : W h k n pc Ls (.ref b :: st) :=
  C.plain (fun hA hx hb' hr => XT.ifnonnullYes hA hx rfl (pc0 := pc) (pc' := pc') rfl (hb hb' hd) rfl (by omega) (by omega) hr) K
theorem Walk.ifnonnullF (C : Walk W l Z a0 tb own code ml rt nm R Q) (pc' : Nat) {o : Int} (hd : decode code pc = .ok (.ifnonnull o, 3)) (hp : pc' = pc + 3) (K : W h k n pc' Ls st) : W h k n pc Ls (.null :: st) := by
  subst hp; exact C.plain (fun hA hx hb' hr => XT.ifnonnullNo hA hx rfl (hb hb' hd) rfl hr) K
theorem Walk.lshl (C : Walk W l Z a0 tb own code ml rt nm R Q) (pc' : Nat) {x : Int64} {y : Int32} (hd : decode code pc = .ok (.lshl, 1)) (hp : pc' = pc + 1) (K : W h k n pc' Ls (.long (x <<< (y.toInt64 &&& 63)) :: st)) : W h k n pc Ls (.int y :: .long x :: st) := by
  subst hp; exact C.plain (fun hA hx hb' hr => XT.lshl hA hx rfl (hb hb' hd) rfl hr) K
theorem Walk.lshr (C : Walk W l Z a0 tb own code ml rt nm R Q) (pc' : Nat) {x : Int64} {y : Int32} (hd : decode code pc = .ok (.lshr, 1)) (hp : pc' = pc + 1) (K : W h k n pc' Ls (.long (x >>> (y.toInt64 &&& 63)) :: st)) : W h k n pc Ls (.int y :: .long x :: st) := by
  subst hp; exact C.plain (fun hA hx hb' hr => XT.lshr hA hx rfl (hb hb' hd) rfl hr) K
theorem Walk.lushr (C : Walk W l Z a0 tb own code ml rt nm R Q) (pc' : Nat) {x : Int64} {y : Int32} (hd : decode code pc = .ok (.lushr, 1)) (hp : pc' = pc + 1) (K : W h k n pc' Ls (.long (XT.ushrL x y) :: st)) : W h k n pc Ls (.int y :: .long x :: st) := by
  subst hp; exact C.plain (fun hA hx hb' hr => XT.lushr hA hx rfl (hb hb' hd) rfl hr) K
/-! the returns -/
theorem Walk.ret (C : Walk W l Z a0 tb own code ml rt nm R Q) {v : Value} {t : FieldType} {i : Instr} (hd : decode code pc = .ok (i, 1)) (hrt : rt = some t) (hn : narrow t v = v)
    (hi : (i = .ireturn ∧ (t = .int ∨ t = .boolean ∨ t = .byte ∨ t = .char ∨ t = .short) ∧ ∃ z, v = .int z) ∨ (i = .lreturn ∧ t = .long ∧ ∃ z, v = .long z) ∨ (i = .dreturn ∧ t = .double ∧ ∃ z, v = .double z) ∨ (i = .freturn ∧ t = .float ∧ ∃ z, v = .float z) ∨ (i = .areturn ∧ t.isReference = true ∧ v.isRef = true))
    (hq : Q (some v) h) (hk : k ≤ R.cells) (hs : n ≤ R.slots) : W h k n pc Ls (v :: st) := by
  obtain ⟨p, e, s, m, args, below, meth, c, rfl, hx, hby, hml, hown, hrt', hlk, hZ, hnm, hw⟩ := C
  intro hE T locs X eT N
  subst eT hrt
  obtain ⟨fs, hr, hrun, hended, hW, hsame⟩ := X.leave (v := some v) (fun h => by rw [hrt'] at h; cases h)
  exact ⟨_, _, retOut X hx hrt' hn hi (hb hby hd) hr, hrun, hended, _, _, rfl, ⟨hq, hE, N⟩, ⟨_, rfl⟩, hW, hsame.mono hk hs⟩
theorem Walk.retI (C : Walk W l Z a0 tb own code ml rt nm R Q) {x : Int32} (t : FieldType) (hd : decode code pc = .ok (.ireturn, 1)) (hrt : rt = some t) (ht : t = .int ∨ t = .boolean ∨ t = .byte ∨ t = .char ∨ t = .short) (hn : nar t x = x)
    (hk : k ≤ R.cells) (hs : n ≤ R.slots) (hq : Q (some (.int x)) h) : W h k n pc Ls (.int x :: st) :=
  C.ret hd hrt (by have e : narrow t (.int x) = .int (nar t x) := by rcases ht with rfl | rfl | rfl | rfl | rfl <;> rfl
                   rw [e, hn]) (Or.inl ⟨rfl, ht, _, rfl⟩) hq hk hs
theorem Walk.retA (C : Walk W l Z a0 tb own code ml rt nm R Q) {v : Value} (t : FieldType) (hd : decode code pc = .ok (.areturn, 1)) (hrt : rt = some t) (ht : t.isReference = true) (hv : v.isRef = true)
    (hk : k ≤ R.cells) (hs : n ≤ R.slots) (hq : Q (some v) h) : W h k n pc Ls (v :: st) :=
  C.ret hd hrt (by cases t <;> first | (cases ht; done) | (cases v <;> first | (cases hv; done) | rfl)) (Or.inr (Or.inr (Or.inr (Or.inr ⟨rfl, ht, hv⟩)))) hq hk hs
theorem Walk.ret0 (C : Walk W l Z a0 tb own code ml rt nm R Q) (hd : decode code pc = .ok (.return_, 1)) (hrt : rt = none) (hk : k ≤ R.cells) (hs : n ≤ R.slots) (hq : Q none h) : W h k n pc Ls [] := by
  obtain ⟨p, e, s, m, args, below, meth, c, rfl, hx, hby, hml, hown, hrt', hlk, hZ, hnm, hw⟩ := C
  intro hE T locs X eT N
  subst eT hrt
  obtain ⟨fs, hr, hrun, hended, hW, hsame⟩ := X.leave (v := none) (fun _ => rfl)
  exact ⟨_, _, X.returnOut hx hrt' (hb hby hd) hr, hrun, hended, _, _, rfl, ⟨hq, hE, N⟩, ⟨_, rfl⟩, hW, hsame.mono hk hs⟩
/-! constants of the pool, static fields, fields -/
theorem Walk.ldc (C : Walk W l Z a0 tb own code ml rt nm R Q) (pc' : Nat) (v : Int32) {idx : Nat} (hd : decode code pc = .ok (.ldc idx, 2)) (hp : pc' = pc + 2) (w : Jvm.Cond.constant own idx v ∈ tb) (K : W h k n pc' Ls (.int v :: st)) : W h k n pc Ls st := by
  obtain ⟨p, e, s, m, args, below, meth, c, rfl, hx, hby, hml, hown, hrt', hlk, hZ, hnm, hw⟩ := C
  intro hE T locs X eT N
  subst hp
  obtain ⟨u, o, h1, h2⟩ := K hE T locs X eT N
  exact ⟨u, o, X.ldcI hx hown (mv hZ (hw _ w)) rfl (hb hby hd) h1, h2⟩
theorem Walk.ldcW (C : Walk W l Z a0 tb own code ml rt nm R Q) (pc' : Nat) (v : Int32) {idx : Nat} (hd : decode code pc = .ok (.ldc_w idx, 3)) (hp : pc' = pc + 3) (w : Jvm.Cond.constant own idx v ∈ tb) (K : W h k n pc' Ls (.int v :: st)) : W h k n pc Ls st := by
  obtain ⟨p, e, s, m, args, below, meth, c, rfl, hx, hby, hml, hown, hrt', hlk, hZ, hnm, hw⟩ := C
  intro hE T locs X eT N
  subst hp
  obtain ⟨u, o, h1, h2⟩ := K hE T locs X eT N
  exact ⟨u, o, X.ldcWI hx hown (mv hZ (hw _ w)) rfl (hb hby hd) h1, h2⟩
theorem Walk.ldc2 (C : Walk W l Z a0 tb own code ml rt nm R Q) (pc' : Nat) (v : Int64) {idx : Nat} (hd : decode code pc = .ok (.ldc2_w idx, 3)) (hp : pc' = pc + 3) (w : Jvm.Cond.constantLong own idx v ∈ tb) (K : W h k n pc' Ls (.long v :: st)) : W h k n pc Ls st := by
  obtain ⟨p, e, s, m, args, below, meth, c, rfl, hx, hby, hml, hown, hrt', hlk, hZ, hnm, hw⟩ := C
  intro hE T locs X eT N
  subst hp
  obtain ⟨u, o, h1, h2⟩ := K hE T locs X eT N
  exact ⟨u, o, X.ldc2J hx hown (mv hZ (hw _ w)) rfl (hb hby hd) h1, h2⟩
theorem Walk.getstatic (C : Walk W l Z a0 tb own code ml rt nm R Q) (pc' : Nat) {idx : Nat} {O f d : String} {v : Value} (hd : decode code pc = .ok (.getstatic idx, 3)) (hp : pc' = pc + 3) (w : Jvm.Cond.fieldLink own idx O f d ∈ tb) (F : Sta Z Z.heap O f d v) (K : W h k n pc' Ls (v :: st)) : W h k n pc Ls st := by
  obtain ⟨p, e, s, m, args, below, meth, c, rfl, hx, hby, hml, hown, hrt', hlk, hZ, hnm, hw⟩ := C
  intro hE T locs X eT N
  subst hp
  obtain ⟨T', X', e', S⟩ := getS X hx hZ hown (host := "") (hw _ w) Via.refl eT (F.ext hE) (g := mkF m pc Ls st) rfl (hb hby hd)
  obtain ⟨u, o, h1, h2⟩ := K hE T' locs X' e' N
  exact ⟨u, o, S _ h1, h2⟩
theorem Walk.getfield (C : Walk W l Z a0 tb own code ml rt nm R Q) (pc' : Nat) {idx : Nat} {R0 O f d : String} {a : Addr} {v : Value} (hd : decode code pc = .ok (.getfield idx, 3)) (hp : pc' = pc + 3) (w : Jvm.Cond.fieldLink own idx R0 f d ∈ tb) (via : Via Z R0 O f d) (F : Fld Z h a O f d v) (K : W h k n pc' Ls (v :: st)) : W h k n pc Ls (.ref a :: st) := by
  obtain ⟨p, e, s, m, args, below, meth, c, rfl, hx, hby, hml, hown, hrt', hlk, hZ, hnm, hw⟩ := C
  intro hE T locs X eT N
  subst hp
  obtain ⟨T', X', e', S⟩ := getF X hx hZ hown (host := "") (Or.inl (hw _ w)) via eT F (g := mkF m pc Ls (.ref a :: st)) rfl rfl (hb hby hd)
  obtain ⟨u, o, h1, h2⟩ := K hE T' locs X' e' N
  exact ⟨u, o, S _ h1, h2⟩
theorem Walk.getfieldOld (C : Walk W l Z a0 tb own code ml rt nm R Q) (pc' : Nat) {idx : Nat} {R0 O f d : String} {a : Addr} {v : Value} (hd : decode code pc = .ok (.getfield idx, 3)) (hp : pc' = pc + 3) (w : Jvm.Cond.fieldLink own idx R0 f d ∈ tb) (via : Via Z R0 O f d) (F : Fld Z Z.heap a O f d v) (K : W h k n pc' Ls (v :: st)) : W h k n pc Ls (.ref a :: st) :=
  C.kept fun hE => C.getfield pc' hd hp w via (F.ext hE) K
theorem Walk.putfield (C : Walk W l Z a0 tb own code ml rt nm R Q) (pc' : Nat) {idx kk : Nat} {R0 O f d D : String} {a : Addr} {v v' old : Value} (ty : FieldType) (hd : decode code pc = .ok (.putfield idx, 3)) (hp : pc' = pc + 3) (w : Jvm.Cond.fieldLink own idx R0 f d ∈ tb) (via : Via Z R0 O f d) (F : Fld Z h a O f d old) (E : Exa Z h a D)
    (L : Jvm.Cond.lays D O f d ∈ tb ∨ (Jvm.Cond.laysFinal D O f d ∈ tb ∧ own = O ∧ nm = "<init>")) (wi : Jvm.Cond.instantiable D kk ∈ tb) (hty : parseFieldDescriptor d = some ty) (hn : narrow ty v = v') (hf : fits ty v' = true) (ha : Z.heap.size ≤ a)
    (K : ∀ h', Wr h h' a (Jvm.RoadKit.slotOf Z O f d) v' → W h' k n pc' Ls st) : W h k n pc Ls (v :: .ref a :: st) := by
  obtain ⟨p, e, s, m, args, below, meth, c, rfl, hx, hby, hml, hown, hrt', hlk, hZ, hnm, hw⟩ := C
  intro hE T locs X eT N
  subst hp
  obtain ⟨T', h', X', e', Wr', S⟩ := putFN X hx hZ hown (hw _ w) via eT F E (L.imp (hw _) fun q => ⟨hw _ q.1, q.2.1, hnm.trans q.2.2⟩) (hw _ wi) hty hn hf (g := mkF m pc Ls (v :: .ref a :: st)) rfl rfl (hb hby hd)
  obtain ⟨u, o, h1, h2⟩ := K h' Wr' (Old.wr (n0 := Z.heap.size) ⟨rfl, hE⟩ Wr' ha).2 T' _ X' e' (Fr.snoc X' N ha)
  exact ⟨u, o, S _ h1, h2⟩
/-! arrays: the places' values as a list -/
def Al (Z : State) (h : Heap) (a : Addr) (ty : FieldType) (vs : List Value) : Prop := ∃ c : Cell, Arr Z h a c ty ∧ c.slots.toList = vs
theorem Al.lt {a : Addr} {ty : FieldType} {vs : List Value} (A : Al Z h a ty vs) : a < h.size := by obtain ⟨c, A, -⟩ := A; exact A.lt
theorem Al.ext {h' : Heap} {a : Addr} {ty : FieldType} {vs : List Value} (A : Al Z h a ty vs) (E : Ext h h') : Al Z h' a ty vs := by obtain ⟨c, A, q⟩ := A; exact ⟨c, A.ext E, q⟩
theorem Al.keep {h' : Heap} {a : Addr} {ty : FieldType} {vs : List Value} {ws : List Addr} (A : Al Z h a ty vs) (K : Keep h h' ws) (q : a ∉ ws) : Al Z h' a ty vs := by obtain ⟨c, A, r⟩ := A; exact ⟨c, ⟨K.2.1 a c A.1 q, A.2⟩, r⟩
theorem Al.set {h' : Heap} {a : Addr} {ty : FieldType} {vs : List Value} {i : Nat} {v : Value} (A : Al Z h a ty vs) (Wr' : Wr h h' a i v) : Al Z h' a ty (vs.set i v) := by
  obtain ⟨c, A, rfl⟩ := A
  exact ⟨_, A.same Wr', by simp [Cell.setSlot]⟩
theorem list_at {c : Cell} {vs : List Value} (q : c.slots.toList = vs) (i : Nat) : c.slots[i]? = vs[i]? := by subst q; simp
theorem list_sz {c : Cell} {vs : List Value} (q : c.slots.toList = vs) : c.slots.size = vs.length := by subst q; simp
theorem Walk.newarray (C : Walk W l Z a0 tb own code ml rt nm R Q) (pc' : Nat) {aty : ArrayType} {z : Int32} (cap : Nat) (hd : decode code pc = .ok (.newarray aty, 2)) (hp : pc' = pc + 2) (w : Jvm.Cond.arrayClass (newarray.typeOf aty) ∈ tb) (hz : ¬ z < 0) (hcap : z.toNatClampNeg ≤ cap) (hb' : cap * 8 ≤ 536870912) (hc : k + 1 ≤ R.cells) (hl : n + cap ≤ R.slots)
    (K : ∀ h', Ext h h' → Al Z h' h.size (newarray.typeOf aty) (List.replicate z.toNatClampNeg (defaultValue (newarray.typeOf aty))) → W h' (k + 1) (n + cap) pc' Ls (.ref h.size :: st)) : W h k n pc Ls (.int z :: st) := by
  obtain ⟨p, e, s, m, args, below, meth, c, rfl, hx, hby, hml, hown, hrt', hlk, hZ, hnm, hw⟩ := C
  intro hE T locs X eT N
  subst hp
  obtain ⟨T', h', cA, X', e', E', A', S⟩ := newP X hx hZ (hw _ w) eT (g := mkF m pc Ls (.int z :: st)) rfl (hb hby hd) rfl hz hcap hb' hc hl
  obtain ⟨u, o, h1, h2⟩ := K h' E' ⟨_, A', by simp [newA]⟩ (Old.ext (n0 := Z.heap.size) ⟨rfl, hE⟩ E').2 T' _ X' e' N
  exact ⟨u, o, S _ h1, h2⟩
theorem Walk.anewarray (C : Walk W l Z a0 tb own code ml rt nm R Q) (pc' : Nat) {idx : Nat} {D : String} {z : Int32} (cap : Nat) (hd : decode code pc = .ok (.anewarray idx, 3)) (hp : pc' = pc + 3) (w : Jvm.Cond.classLink own idx D ∈ tb) (w2 : Jvm.Cond.arrayOver (.object D) ∈ tb) (hz : ¬ z < 0) (hcap : z.toNatClampNeg ≤ cap) (hb' : cap * 8 ≤ 536870912) (hc : k + 1 ≤ R.cells) (hl : n + cap ≤ R.slots)
    (K : ∀ h' cA, Ext h h' → (∃ c : Cell, Arr Z h' h.size c (.object D) ∧ c.cls = cA ∧ c.slots.toList = List.replicate z.toNatClampNeg .null) → Ovr Z cA D → W h' (k + 1) (n + cap) pc' Ls (.ref h.size :: st)) : W h k n pc Ls (.int z :: st) := by
  obtain ⟨p, e, s, m, args, below, meth, c, rfl, hx, hby, hml, hown, hrt', hlk, hZ, hnm, hw⟩ := C
  intro hE T locs X eT N
  subst hp
  obtain ⟨T', h', cA, X', e', E', A', O', S⟩ := newR X hx hZ hown (hw _ w) (hw _ w2) eT (g := mkF m pc Ls (.int z :: st)) rfl (hb hby hd) rfl hz hcap hb' hc hl
  obtain ⟨u, o, h1, h2⟩ := K h' cA E' ⟨_, A', rfl, by simp [newA, defaultValue]⟩ O' (Old.ext (n0 := Z.heap.size) ⟨rfl, hE⟩ E').2 T' _ X' e' N
  exact ⟨u, o, S _ h1, h2⟩
/-- an array over the class D: its class, its places -/
def Ro (Z : State) (h : Heap) (a : Addr) (D : String) (cA : ClassId) (vs : List Value) : Prop := ∃ c : Cell, Arr Z h a c (.object D) ∧ c.cls = cA ∧ c.slots.toList = vs
theorem Ro.lt {a : Addr} {D : String} {cA : ClassId} {vs : List Value} (A : Ro Z h a D cA vs) : a < h.size := by obtain ⟨c, A, -⟩ := A; exact A.lt
theorem Ro.ext {h' : Heap} {a : Addr} {D : String} {cA : ClassId} {vs : List Value} (A : Ro Z h a D cA vs) (E : Ext h h') : Ro Z h' a D cA vs := by obtain ⟨c, A, q⟩ := A; exact ⟨c, A.ext E, q⟩
theorem Ro.keep {h' : Heap} {a : Addr} {D : String} {cA : ClassId} {vs : List Value} {ws : List Addr} (A : Ro Z h a D cA vs) (K : Keep h h' ws) (q : a ∉ ws) : Ro Z h' a D cA vs := by obtain ⟨c, A, r⟩ := A; exact ⟨c, ⟨K.2.1 a c A.1 q, A.2⟩, r⟩
theorem Walk.aastore (C : Walk W l Z a0 tb own code ml rt nm R Q) (pc' : Nat) {a b : Addr} {D : String} {cA : ClassId} {vs : List Value} {j : Int32} (i : Nat) (hd : decode code pc = .ok (.aastore, 1)) (hp : pc' = pc + 1) (A : Ro Z h a D cA vs) (O : Ovr Z cA D) (I : Ins Z h b D true) (ha : Z.heap.size ≤ a) (hn : ¬ j < 0) (hi : j.toNatClampNeg = i) (hl : i < vs.length)
    (K : ∀ h', Wr h h' a i (.ref b) → Ro Z h' a D cA (vs.set i (.ref b)) → W h' k n pc' Ls st) : W h k n pc Ls (.ref b :: .int j :: .ref a :: st) := by
  obtain ⟨p, e, s, m, args, below, meth, c, rfl, hx, hby, hml, hown, hrt', hlk, hZ, hnm, hw⟩ := C
  intro hE T locs X eT N
  subst hp
  obtain ⟨cl, A1, A2, A3⟩ := A
  have hj : ¬ (j < 0 ∨ cl.slots.size ≤ j.toNatClampNeg) := by rw [list_sz A3, hi]; exact fun q => q.elim hn (fun q => absurd hl (Nat.not_lt.mpr q))
  obtain ⟨T', h', X', e', Wr', S⟩ := stR X hx hZ eT A1 hj rfl (Sto.ofV A1 A2 O I) (g := mkF m pc Ls (.ref b :: .int j :: .ref a :: st)) rfl rfl (hb hby hd)
  rw [hi] at Wr'
  have R' : Ro Z h' a D cA (vs.set i (.ref b)) := ⟨_, A1.same Wr', by simpa [Cell.setSlot] using A2, by subst A3; simp [Cell.setSlot]⟩
  obtain ⟨u, o, h1, h2⟩ := K h' Wr' R' (Old.wr (n0 := Z.heap.size) ⟨rfl, hE⟩ Wr' ha).2 T' _ X' e' (Fr.snoc X' N ha)
  exact ⟨u, o, S _ h1, h2⟩
theorem Walk.castore (C : Walk W l Z a0 tb own code ml rt nm R Q) (pc' : Nat) {a : Addr} {vs : List Value} {j x : Int32} (i : Nat) (x' : Int32) (hd : decode code pc = .ok (.castore, 1)) (hp : pc' = pc + 1) (A : Al Z h a .char vs) (ha : Z.heap.size ≤ a) (hn : ¬ j < 0) (hi : j.toNatClampNeg = i) (hl : i < vs.length) (hx' : nar .char x = x')
    (K : ∀ h', Wr h h' a i (.int x') → Al Z h' a .char (vs.set i (.int x')) → W h' k n pc' Ls st) : W h k n pc Ls (.int x :: .int j :: .ref a :: st) := by
  obtain ⟨p, e, s, m, args, below, meth, c, rfl, hx, hby, hml, hown, hrt', hlk, hZ, hnm, hw⟩ := C
  intro hE T locs X eT N
  subst hp
  have A' := A
  obtain ⟨cl, A1, A3⟩ := A
  have hj : ¬ (j < 0 ∨ cl.slots.size ≤ j.toNatClampNeg) := by rw [list_sz A3, hi]; exact fun q => q.elim hn (fun q => absurd hl (Nat.not_lt.mpr q))
  obtain ⟨T', h', X', e', Wr', S⟩ := stC X hx hZ eT A1 hj (g := mkF m pc Ls (.int x :: .int j :: .ref a :: st)) rfl rfl (hb hby hd)
  rw [hi, hx'] at Wr'
  obtain ⟨u, o, h1, h2⟩ := K h' Wr' (A'.set Wr') (Old.wr (n0 := Z.heap.size) ⟨rfl, hE⟩ Wr' ha).2 T' _ X' e' (Fr.snoc X' N ha)
  exact ⟨u, o, S _ h1, h2⟩
theorem Walk.bastoreB (C : Walk W l Z a0 tb own code ml rt nm R Q) (pc' : Nat) {a : Addr} {vs : List Value} {j x : Int32} (i : Nat) (x' : Int32) (hd : decode code pc = .ok (.bastore, 1)) (hp : pc' = pc + 1) (A : Al Z h a .byte vs) (ha : Z.heap.size ≤ a) (hn : ¬ j < 0) (hi : j.toNatClampNeg = i) (hl : i < vs.length) (hx' : nar .byte x = x')
    (K : ∀ h', Wr h h' a i (.int x') → Al Z h' a .byte (vs.set i (.int x')) → W h' k n pc' Ls st) : W h k n pc Ls (.int x :: .int j :: .ref a :: st) := by
  obtain ⟨p, e, s, m, args, below, meth, c, rfl, hx, hby, hml, hown, hrt', hlk, hZ, hnm, hw⟩ := C
  intro hE T locs X eT N
  subst hp
  have A' := A
  obtain ⟨cl, A1, A3⟩ := A
  have hj : ¬ (j < 0 ∨ cl.slots.size ≤ j.toNatClampNeg) := by rw [list_sz A3, hi]; exact fun q => q.elim hn (fun q => absurd hl (Nat.not_lt.mpr q))
  obtain ⟨T', h', X', e', Wr', S⟩ := stB X hx hZ eT A1 hj (g := mkF m pc Ls (.int x :: .int j :: .ref a :: st)) rfl rfl (hb hby hd)
  rw [hi, hx'] at Wr'
  obtain ⟨u, o, h1, h2⟩ := K h' Wr' (A'.set Wr') (Old.wr (n0 := Z.heap.size) ⟨rfl, hE⟩ Wr' ha).2 T' _ X' e' (Fr.snoc X' N ha)
  exact ⟨u, o, S _ h1, h2⟩
theorem Walk.bastoreZ (C : Walk W l Z a0 tb own code ml rt nm R Q) (pc' : Nat) {a : Addr} {vs : List Value} {j x : Int32} (i : Nat) (x' : Int32) (hd : decode code pc = .ok (.bastore, 1)) (hp : pc' = pc + 1) (A : Al Z h a .boolean vs) (ha : Z.heap.size ≤ a) (hn : ¬ j < 0) (hi : j.toNatClampNeg = i) (hl : i < vs.length) (hx' : nar .boolean x = x')
    (K : ∀ h', Wr h h' a i (.int x') → Al Z h' a .boolean (vs.set i (.int x')) → W h' k n pc' Ls st) : W h k n pc Ls (.int x :: .int j :: .ref a :: st) := by
  obtain ⟨p, e, s, m, args, below, meth, c, rfl, hx, hby, hml, hown, hrt', hlk, hZ, hnm, hw⟩ := C
  intro hE T locs X eT N
  subst hp
  have A' := A
  obtain ⟨cl, A1, A3⟩ := A
  have hj : ¬ (j < 0 ∨ cl.slots.size ≤ j.toNatClampNeg) := by rw [list_sz A3, hi]; exact fun q => q.elim hn (fun q => absurd hl (Nat.not_lt.mpr q))
  obtain ⟨T', h', X', e', Wr', S⟩ := stZ X hx hZ eT A1 hj (g := mkF m pc Ls (.int x :: .int j :: .ref a :: st)) rfl rfl (hb hby hd)
  rw [hi, hx'] at Wr'
  obtain ⟨u, o, h1, h2⟩ := K h' Wr' (A'.set Wr') (Old.wr (n0 := Z.heap.size) ⟨rfl, hE⟩ Wr' ha).2 T' _ X' e' (Fr.snoc X' N ha)
  exact ⟨u, o, S _ h1, h2⟩
theorem Walk.iastore (C : Walk W l Z a0 tb own code ml rt nm R Q) (pc' : Nat) {a : Addr} {vs : List Value} {j x : Int32} (i : Nat) (hd : decode code pc = .ok (.iastore, 1)) (hp : pc' = pc + 1) (A : Al Z h a .int vs) (ha : Z.heap.size ≤ a) (hn : ¬ j < 0) (hi : j.toNatClampNeg = i) (hl : i < vs.length)
    (K : ∀ h', Wr h h' a i (.int x) → Al Z h' a .int (vs.set i (.int x)) → W h' k n pc' Ls st) : W h k n pc Ls (.int x :: .int j :: .ref a :: st) := by
  obtain ⟨p, e, s, m, args, below, meth, c, rfl, hx, hby, hml, hown, hrt', hlk, hZ, hnm, hw⟩ := C
  intro hE T locs X eT N
  subst hp
  have A' := A
  obtain ⟨cl, A1, A3⟩ := A
  have hj : ¬ (j < 0 ∨ cl.slots.size ≤ j.toNatClampNeg) := by rw [list_sz A3, hi]; exact fun q => q.elim hn (fun q => absurd hl (Nat.not_lt.mpr q))
  obtain ⟨T', h', X', e', Wr', S⟩ := stI X hx hZ eT A1 hj (g := mkF m pc Ls (.int x :: .int j :: .ref a :: st)) rfl rfl (hb hby hd)
  rw [hi] at Wr'
  obtain ⟨u, o, h1, h2⟩ := K h' Wr' (A'.set Wr') (Old.wr (n0 := Z.heap.size) ⟨rfl, hE⟩ Wr' ha).2 T' _ X' e' (Fr.snoc X' N ha)
  exact ⟨u, o, S _ h1, h2⟩
theorem Walk.iaload (C : Walk W l Z a0 tb own code ml rt nm R Q) (pc' : Nat) {a : Addr} {vs : List Value} {j : Int32} (i : Nat) (v : Value) (hd : decode code pc = .ok (.iaload, 1)) (hp : pc' = pc + 1) (A : Al Z h a .int vs) (hn : ¬ j < 0) (hi : j.toNatClampNeg = i) (hv : vs[i]? = some v)
    (K : W h k n pc' Ls (v :: st)) : W h k n pc Ls (.int j :: .ref a :: st) := by
  obtain ⟨p, e, s, m, args, below, meth, c, rfl, hx, hby, hml, hown, hrt', hlk, hZ, hnm, hw⟩ := C
  intro hE T locs X eT N
  subst hp
  obtain ⟨cl, A1, A3⟩ := A
  have hl : i < vs.length := (List.getElem?_eq_some_iff.mp hv).1
  have hj : ¬ (j < 0 ∨ cl.slots.size ≤ j.toNatClampNeg) := by rw [list_sz A3, hi]; exact fun q => q.elim hn (fun q => absurd hl (Nat.not_lt.mpr q))
  obtain ⟨u, o, h1, h2⟩ := K hE T _ X eT N
  exact ⟨u, o, X.iaload hx (by rw [eT]; exact A1.1) (State.isArrayOf_alike hZ.alike A1.2.1) A1.2.2 hj (by rw [hi, list_at A3]; exact hv) (g := mkF m pc Ls (.int j :: .ref a :: st)) rfl rfl (hb hby hd) _ h1, h2⟩
theorem Walk.caload (C : Walk W l Z a0 tb own code ml rt nm R Q) (pc' : Nat) {a : Addr} {vs : List Value} {j : Int32} (i : Nat) (v : Value) (hd : decode code pc = .ok (.caload, 1)) (hp : pc' = pc + 1) (A : Al Z h a .char vs) (hn : ¬ j < 0) (hi : j.toNatClampNeg = i) (hv : vs[i]? = some v)
    (K : W h k n pc' Ls (v :: st)) : W h k n pc Ls (.int j :: .ref a :: st) := by
  obtain ⟨p, e, s, m, args, below, meth, c, rfl, hx, hby, hml, hown, hrt', hlk, hZ, hnm, hw⟩ := C
  intro hE T locs X eT N
  subst hp
  obtain ⟨cl, A1, A3⟩ := A
  have hl : i < vs.length := (List.getElem?_eq_some_iff.mp hv).1
  have hj : ¬ (j < 0 ∨ cl.slots.size ≤ j.toNatClampNeg) := by rw [list_sz A3, hi]; exact fun q => q.elim hn (fun q => absurd hl (Nat.not_lt.mpr q))
  obtain ⟨u, o, h1, h2⟩ := K hE T _ X eT N
  exact ⟨u, o, X.caload hx (by rw [eT]; exact A1.1) (State.isArrayOf_alike hZ.alike A1.2.1) A1.2.2 hj (by rw [hi, list_at A3]; exact hv) (g := mkF m pc Ls (.int j :: .ref a :: st)) rfl rfl (hb hby hd) _ h1, h2⟩
theorem Walk.baloadB (C : Walk W l Z a0 tb own code ml rt nm R Q) (pc' : Nat) {a : Addr} {vs : List Value} {j : Int32} (i : Nat) (v : Value) (hd : decode code pc = .ok (.baload, 1)) (hp : pc' = pc + 1) (A : Al Z h a .byte vs) (hn : ¬ j < 0) (hi : j.toNatClampNeg = i) (hv : vs[i]? = some v)
    (K : W h k n pc' Ls (v :: st)) : W h k n pc Ls (.int j :: .ref a :: st) := by
  obtain ⟨p, e, s, m, args, below, meth, c, rfl, hx, hby, hml, hown, hrt', hlk, hZ, hnm, hw⟩ := C
  intro hE T locs X eT N
  subst hp
  obtain ⟨cl, A1, A3⟩ := A
  have hl : i < vs.length := (List.getElem?_eq_some_iff.mp hv).1
  have hj : ¬ (j < 0 ∨ cl.slots.size ≤ j.toNatClampNeg) := by rw [list_sz A3, hi]; exact fun q => q.elim hn (fun q => absurd hl (Nat.not_lt.mpr q))
  obtain ⟨u, o, h1, h2⟩ := K hE T _ X eT N
  exact ⟨u, o, X.baloadBytes hx (by rw [eT]; exact A1.1) (State.isArrayOf_alike hZ.alike A1.2.1) A1.2.2 hj (by rw [hi, list_at A3]; exact hv) (g := mkF m pc Ls (.int j :: .ref a :: st)) rfl rfl (hb hby hd) _ h1, h2⟩
theorem Walk.baloadZ (C : Walk W l Z a0 tb own code ml rt nm R Q) (pc' : Nat) {a : Addr} {vs : List Value} {j : Int32} (i : Nat) (v : Value) (hd : decode code pc = .ok (.baload, 1)) (hp : pc' = pc + 1) (A : Al Z h a .boolean vs) (hn : ¬ j < 0) (hi : j.toNatClampNeg = i) (hv : vs[i]? = some v)
    (K : W h k n pc' Ls (v :: st)) : W h k n pc Ls (.int j :: .ref a :: st) := by
  obtain ⟨p, e, s, m, args, below, meth, c, rfl, hx, hby, hml, hown, hrt', hlk, hZ, hnm, hw⟩ := C
  intro hE T locs X eT N
  subst hp
  obtain ⟨cl, A1, A3⟩ := A
  have hl : i < vs.length := (List.getElem?_eq_some_iff.mp hv).1
  have hj : ¬ (j < 0 ∨ cl.slots.size ≤ j.toNatClampNeg) := by rw [list_sz A3, hi]; exact fun q => q.elim hn (fun q => absurd hl (Nat.not_lt.mpr q))
  obtain ⟨u, o, h1, h2⟩ := K hE T _ X eT N
  exact ⟨u, o, X.baloadBooleans hx (by rw [eT]; exact A1.1) (State.isArrayOf_alike hZ.alike A1.2.1) A1.2.2 hj (by rw [hi, list_at A3]; exact hv) (g := mkF m pc Ls (.int j :: .ref a :: st)) rfl rfl (hb hby hd) _ h1, h2⟩
theorem Walk.aaload (C : Walk W l Z a0 tb own code ml rt nm R Q) (pc' : Nat) {a : Addr} {D : String} {cA : ClassId} {vs : List Value} {j : Int32} (i : Nat) (v : Value) (hd : decode code pc = .ok (.aaload, 1)) (hp : pc' = pc + 1) (A : Ro Z h a D cA vs) (hn : ¬ j < 0) (hi : j.toNatClampNeg = i) (hv : vs[i]? = some v)
    (K : W h k n pc' Ls (v :: st)) : W h k n pc Ls (.int j :: .ref a :: st) := by
  obtain ⟨p, e, s, m, args, below, meth, c, rfl, hx, hby, hml, hown, hrt', hlk, hZ, hnm, hw⟩ := C
  intro hE T locs X eT N
  subst hp
  obtain ⟨cl, A1, A2, A3⟩ := A
  have hl : i < vs.length := (List.getElem?_eq_some_iff.mp hv).1
  have hj : ¬ (j < 0 ∨ cl.slots.size ≤ j.toNatClampNeg) := by rw [list_sz A3, hi]; exact fun q => q.elim hn (fun q => absurd hl (Nat.not_lt.mpr q))
  obtain ⟨u, o, h1, h2⟩ := K hE T _ X eT N
  exact ⟨u, o, X.aaload hx (by rw [eT]; exact A1.1) (State.isArrayOf_alike hZ.alike A1.2.1) rfl A1.2.2 hj (by rw [hi, list_at A3]; exact hv) (g := mkF m pc Ls (.int j :: .ref a :: st)) rfl rfl (hb hby hd) _ h1, h2⟩
theorem Walk.arraylength (C : Walk W l Z a0 tb own code ml rt nm R Q) (pc' : Nat) {a : Addr} {ty : FieldType} {vs : List Value} (z : Int32) (hd : decode code pc = .ok (.arraylength, 1)) (hp : pc' = pc + 1) (A : Al Z h a ty vs) (hz : vs.length.toInt32 = z)
    (K : W h k n pc' Ls (.int z :: st)) : W h k n pc Ls (.ref a :: st) := by
  obtain ⟨p, e, s, m, args, below, meth, c, rfl, hx, hby, hml, hown, hrt', hlk, hZ, hnm, hw⟩ := C
  intro hE T locs X eT N
  subst hp
  obtain ⟨cl, A1, A3⟩ := A
  obtain ⟨u, o, h1, h2⟩ := K hE T _ X eT N
  rw [← hz, ← list_sz A3] at h1
  exact ⟨u, o, X.arraylength hx (by rw [eT]; exact A1.1) (State.isArrayOf_alike hZ.alike A1.2.1) (g := mkF m pc Ls (.ref a :: st)) rfl rfl (hb hby hd) _ h1, h2⟩
/-! objects, calls -/
theorem Walk.new (C : Walk W l Z a0 tb own code ml rt nm R Q) (pc' : Nat) {idx sz : Nat} {D : String} (hd : decode code pc = .ok (.new idx, 3)) (hp : pc' = pc + 3) (w : Jvm.Cond.classLink own idx D ∈ tb) (wi : Jvm.Cond.instantiable D sz ∈ tb) (wz : Jvm.Cond.initialized D ∈ tb) (hc : k + 1 ≤ R.cells) (hl : n + sz ≤ R.slots)
    (K : ∀ h', Ext h h' → Exa Z h' h.size D → (∀ {O f d : String} {ty : FieldType}, Laid Z a0 D O f d → parseFieldDescriptor d = some ty → Fld Z h' h.size O f d (defaultValue ty)) → W h' (k + 1) (n + sz) pc' Ls (.ref h.size :: st)) : W h k n pc Ls st := by
  obtain ⟨p, e, s, m, args, below, meth, c, rfl, hx, hby, hml, hown, hrt', hlk, hZ, hnm, hw⟩ := C
  intro hE T locs X eT N
  subst hp
  obtain ⟨T', h', X', e', E', A', D', -, S⟩ := newO X hx hZ hown (hw _ w) (hw _ wi) (hw _ wz) eT (g := mkF m pc Ls st) rfl (hb hby hd) hc hl
  obtain ⟨u, o, h1, h2⟩ := K h' E' A' D' (Old.ext (n0 := Z.heap.size) ⟨rfl, hE⟩ E').2 T' _ X' e' N
  exact ⟨u, o, S _ h1, h2⟩
theorem Walk.initObj (C : Walk W l Z a0 tb own code ml rt nm R Q) (pc' : Nat) {idx : Nat} {a : Addr} (wd : Nat) (hd : decode code pc = .ok (.invokespecial idx, 3)) (hp : pc' = pc + 3) (w1 : Jvm.Cond.methodLink own idx Lib.objectInit ∈ tb) (w2 : Jvm.Cond.instanceMethod Lib.objectInit ∈ tb) (w3 : Jvm.Cond.code Lib.objectInit ⟨#[0xb1]⟩ 1 none ∈ tb) (hls : Ls.size = ml) (hf : 1 ≤ R.frames) (hwd : (st.map fun v => v.category).sum ≤ wd) (hl : wd + 12 ≤ R.locals)
    (K : W h k n pc' Ls st) : W h k n pc Ls (.ref a :: st) := by
  obtain ⟨p, e, s, m, args, below, meth, c, rfl, hx, hby, hml, hown, hrt', hlk, hZ, hnm, hw⟩ := C
  intro hE T locs X eT N
  subst hp
  obtain ⟨T', X', e', S⟩ := initO X hx hZ hown (hw _ w1) (hw _ w2) (hw _ w3) eT (g := mkF m pc Ls (.ref a :: st)) rfl (by show Ls.size = _; rw [hls, hml]) rfl (hb hby hd) hf (W := wd) (by show 2 * 0 + _ ≤ _; omega) hl
  obtain ⟨u, o, h1, h2⟩ := K hE T' _ X' e' N
  exact ⟨u, o, S _ h1, h2⟩
theorem Walk.checkcast (C : Walk W l Z a0 tb own code ml rt nm R Q) (pc' : Nat) {idx : Nat} {D : String} {a : Addr} (hd : decode code pc = .ok (.checkcast idx, 3)) (hp : pc' = pc + 3) (w : Jvm.Cond.classLink own idx D ∈ tb) (I : Ins Z h a D true) (K : W h k n pc' Ls (.ref a :: st)) : W h k n pc Ls (.ref a :: st) := by
  obtain ⟨p, e, s, m, args, below, meth, c, rfl, hx, hby, hml, hown, hrt', hlk, hZ, hnm, hw⟩ := C
  intro hE T locs X eT N
  subst hp
  obtain ⟨T', X', e', S⟩ := castY X hx hZ hown (hw _ w) eT I (g := mkF m pc Ls (.ref a :: st)) rfl rfl (hb hby hd)
  obtain ⟨u, o, h1, h2⟩ := K hE T' _ X' e' N
  exact ⟨u, o, S _ h1, h2⟩
theorem Walk.callS (C : Walk W l Z a0 tb own code ml rt nm R Q) (pc' : Nat) {idx : Nat} {y : MethodName} {yc : ByteArray} {ym : Nat} {yr : Option FieldType} {rm : Room} {as : List Value} {rest : List Value} {yQ : Option Value → Heap → Prop} {ps : List FieldType} {r : Option FieldType} (wd : Nat) (hd : decode code pc = .ok (.invokestatic idx, 3)) (hp : pc' = pc + 3) (w1 : Jvm.Cond.methodLink own idx y ∈ tb) (w2 : Jvm.Cond.static y ∈ tb) (w3 : Jvm.Cond.initialized y.cls ∈ tb) (w4 : Jvm.Cond.code y yc ym yr ∈ tb) (hy : y.cls ≠ "java/lang/invoke/MethodHandle" ∧ y.cls ≠ "java/lang/invoke/VarHandle") (con : Con l Z y yc ym yr rm as.toArray h yQ) (pd : parseMethodDescriptor y.desc = some ⟨ps, r⟩) (hlen : as.length = ps.length) (hls : Ls.size = ml) (hwd : (rest.map fun v => v.category).sum ≤ wd) (hf : rm.frames + 1 ≤ R.frames) (hl : wd + (ym + 11) + rm.locals ≤ R.locals) (hc : k + rm.cells ≤ R.cells) (hs : n + rm.slots ≤ R.slots) (hst : st = as.reverse ++ rest)
    (K : ∀ v h', yQ v h' → W h' (k + rm.cells) (n + rm.slots) pc' Ls (v.toList ++ rest)) : W h k n pc Ls st := by
  obtain ⟨p, e, s, m, args, below, meth, c, rfl, hx, hby, hml, hown, hrt', hlk, hZ, hnm, hw⟩ := C
  intro hE T locs X eT N
  subst hp
  obtain ⟨v, vm₁, ⟨T', L', k', n'⟩, -, X', P, S⟩ := Jvm.LawKit.callS X hx (y := y) hown (mvT hZ (hw _ w1)) (mvT hZ (hw _ w2)) (mvT hZ (hw _ w3)) (mvT hZ (hw _ w4)) hy (backOf (Q := fun v h L => yQ v h ∧ Ext Z.heap h ∧ Fr Z.heap.size L) (W := wd) (con hE []) hZ (hw _ w4) (hw _ w3) hf hl) (g := mkF m pc Ls st) rfl (by show Ls.size = _; rw [hls, hml]) (argsL := as) (rest := rest) (lenOf pd hlen) hst (by show 2 * 0 + _ ≤ _; omega) (hb hby hd) (fun _ _ => ⟨rfl, eT, hc, hs⟩)
  obtain ⟨Lc, ⟨hq, hE', hN⟩, l', y', z'⟩ := P
  dsimp only [Pt.U, Pt.locs, Pt.cells, Pt.slots] at X' l' y' z' S hq hE'
  subst l' y' z'
  obtain ⟨u, o, h1, h2⟩ := K v T'.heap hq hE' T' _ X' rfl (Fr.app N hN)
  exact ⟨u, o, S _ h1, h2⟩
theorem Walk.callV (C : Walk W l Z a0 tb own code ml rt nm R Q) (pc' : Nat) {idx : Nat} {a : Addr} {D : String} {x : MethodName} {y : MethodName} {yc : ByteArray} {ym : Nat} {yr : Option FieldType} {rm : Room} {as : List Value} {rest : List Value} {yQ : Option Value → Heap → Prop} {ps : List FieldType} {r : Option FieldType} (wd : Nat) (hd : decode code pc = .ok (.invokevirtual idx, 3)) (hp : pc' = pc + 3) (w1 : Jvm.Cond.methodLink own idx x ∈ tb) (w2 : Jvm.Cond.declares x ∈ tb) (w5 : Jvm.Cond.selects D x y ∈ tb) (nf : ∀ args s, (∀ d ∈ tb, d.before a0 Z = true) → Z.Warmed39 s.vm → (Jvm.Cond.selects D x y).before args s = true → NotFace s x) (w6 : Jvm.Cond.instanceMethod y ∈ tb) (w3 : Jvm.Cond.initialized y.cls ∈ tb) (w4 : Jvm.Cond.code y yc ym yr ∈ tb) (hy : x.cls ≠ "java/lang/invoke/MethodHandle" ∧ x.cls ≠ "java/lang/invoke/VarHandle") (E : Exa Z h a D) (con : Con l Z y yc ym yr rm (.ref a :: as).toArray h yQ) (pd : parseMethodDescriptor x.desc = some ⟨ps, r⟩) (hlen : as.length = ps.length) (hls : Ls.size = ml) (hwd : (rest.map fun v => v.category).sum ≤ wd) (hf : rm.frames + 1 ≤ R.frames) (hl : wd + (ym + 11) + rm.locals ≤ R.locals) (hc : k + rm.cells ≤ R.cells) (hs : n + rm.slots ≤ R.slots) (hst : st = as.reverse ++ .ref a :: rest)
    (K : ∀ v h', yQ v h' → W h' (k + rm.cells) (n + rm.slots) pc' Ls (v.toList ++ rest)) : W h k n pc Ls st := by
  obtain ⟨p, e, s, m, args, below, meth, c, rfl, hx, hby, hml, hown, hrt', hlk, hZ, hnm, hw⟩ := C
  intro hE T locs X eT N
  subst hp
  obtain ⟨cq, kq, q1, q2, q3⟩ := isOf (T := T) hZ eT E
  obtain ⟨v, vm₁, ⟨T', L', k', n'⟩, -, X', P, S⟩ := X.virtualBack hx (y := x) (z := y) hown (mvT hZ (hw _ w1)) (mvT hZ (hw _ w2)) (nf args s hw hZ (mvT hZ (hw _ w5))) (mvT hZ (hw _ w5)) (mvT hZ (hw _ w6)) hy (backOf (Q := fun v h L => yQ v h ∧ Ext Z.heap h ∧ Fr Z.heap.size L) (W := wd) (con hE []) hZ (hw _ w4) (hw _ w3) hf hl) q1 q3 (g := mkF m pc Ls st) rfl (by show Ls.size = _; rw [hls, hml]) (Steps.refl _) (argsL := as) (rest := rest) (lenOf pd hlen) hst (by show 2 * 0 + _ ≤ _; omega) (hb hby hd) (fun _ _ => ⟨rfl, eT, hc, hs⟩)
  obtain ⟨Lc, ⟨hq, hE', hN⟩, l', y', z'⟩ := P
  dsimp only [Pt.U, Pt.locs, Pt.cells, Pt.slots] at X' l' y' z' S hq hE'
  subst l' y' z'
  obtain ⟨u, o, h1, h2⟩ := K v T'.heap hq hE' T' _ X' rfl (Fr.app N hN)
  exact ⟨u, o, S.trans h1, h2⟩
theorem nfSelf {x : MethodName} {D : String} : ∀ args s, (∀ d ∈ tb, d.before a0 Z = true) → Z.Warmed39 s.vm → (Jvm.Cond.selects D x x).before args s = true → NotFace s x := fun _ _ _ _ q => notFace_of_selects q
theorem Walk.callI (C : Walk W l Z a0 tb own code ml rt nm R Q) (pc' : Nat) {idx : Nat} {a : Addr} {y : MethodName} {yc : ByteArray} {ym : Nat} {yr : Option FieldType} {rm : Room} {as : List Value} {rest : List Value} {yQ : Option Value → Heap → Prop} {ps : List FieldType} {r : Option FieldType} (wd : Nat) (hd : decode code pc = .ok (.invokespecial idx, 3)) (hp : pc' = pc + 3) (hy1 : y.name = "<init>") (hyr : yr = none) (w1 : Jvm.Cond.methodLink own idx y ∈ tb) (w6 : Jvm.Cond.instanceMethod y ∈ tb) (w3 : Jvm.Cond.initialized y.cls ∈ tb) (w4 : Jvm.Cond.code y yc ym yr ∈ tb) (hy : y.cls ≠ "java/lang/invoke/MethodHandle" ∧ y.cls ≠ "java/lang/invoke/VarHandle") (con : Con l Z y yc ym yr rm (.ref a :: as).toArray h yQ) (pd : parseMethodDescriptor y.desc = some ⟨ps, r⟩) (hlen : as.length = ps.length) (hls : Ls.size = ml) (hwd : (rest.map fun v => v.category).sum ≤ wd) (hf : rm.frames + 1 ≤ R.frames) (hl : wd + (ym + 11) + rm.locals ≤ R.locals) (hc : k + rm.cells ≤ R.cells) (hs : n + rm.slots ≤ R.slots) (hst : st = as.reverse ++ .ref a :: rest)
    (K : ∀ v h', yQ v h' → W h' (k + rm.cells) (n + rm.slots) pc' Ls (v.toList ++ rest)) : W h k n pc Ls st := by
  obtain ⟨p, e, s, m, args, below, meth, c, rfl, hx, hby, hml, hown, hrt', hlk, hZ, hnm, hw⟩ := C
  intro hE T locs X eT N
  subst hp
  subst hyr
  obtain ⟨v, vm₁, ⟨T', L', k', n'⟩, -, X', P, S⟩ := X.specialBack hx (y := y) hy1 hown (mvT hZ (hw _ w1)) (mvT hZ (hw _ w6)) (mvT hZ (hw _ w4)) hy (backOf (Q := fun v h L => yQ v h ∧ Ext Z.heap h ∧ Fr Z.heap.size L) (W := wd) (con hE []) hZ (hw _ w4) (hw _ w3) hf hl) (g := mkF m pc Ls st) rfl (by show Ls.size = _; rw [hls, hml]) (Steps.refl _) (a := a) (argsL := as) (rest := rest) (lenOf pd hlen) hst (by show 2 * 0 + _ ≤ _; omega) (hb hby hd) (fun _ _ => ⟨rfl, eT, hc, hs⟩)
  obtain ⟨Lc, ⟨hq, hE', hN⟩, l', y', z'⟩ := P
  dsimp only [Pt.U, Pt.locs, Pt.cells, Pt.slots] at X' l' y' z' S hq hE'
  subst l' y' z'
  obtain ⟨u, o, h1, h2⟩ := K v T'.heap hq hE' T' _ X' rfl (Fr.app N hN)
  exact ⟨u, o, S.trans h1, h2⟩
theorem Walk.callP (C : Walk W l Z a0 tb own code ml rt nm R Q) (pc' : Nat) {idx : Nat} {a : Addr} {D : String} {y : MethodName} {yc : ByteArray} {ym : Nat} {yr : Option FieldType} {rm : Room} {as : List Value} {rest : List Value} {yQ : Option Value → Heap → Prop} {ps : List FieldType} {r : Option FieldType} (wd : Nat) (hd : decode code pc = .ok (.invokevirtual idx, 3)) (hp : pc' = pc + 3) (w1 : Jvm.Cond.methodLink own idx y ∈ tb) (w5 : Jvm.Cond.selects y.cls y y ∈ tb) (w7 : Jvm.Cond.privateMethod y ∈ tb) (w6 : Jvm.Cond.instanceMethod y ∈ tb) (w3 : Jvm.Cond.initialized y.cls ∈ tb) (w4 : Jvm.Cond.code y yc ym yr ∈ tb) (hy : y.cls ≠ "java/lang/invoke/MethodHandle" ∧ y.cls ≠ "java/lang/invoke/VarHandle") (E : Exa Z h a D) (con : Con l Z y yc ym yr rm (.ref a :: as).toArray h yQ) (pd : parseMethodDescriptor y.desc = some ⟨ps, r⟩) (hlen : as.length = ps.length) (hls : Ls.size = ml) (hwd : (rest.map fun v => v.category).sum ≤ wd) (hf : rm.frames + 1 ≤ R.frames) (hl : wd + (ym + 11) + rm.locals ≤ R.locals) (hc : k + rm.cells ≤ R.cells) (hs : n + rm.slots ≤ R.slots) (hst : st = as.reverse ++ .ref a :: rest)
    (K : ∀ v h', yQ v h' → W h' (k + rm.cells) (n + rm.slots) pc' Ls (v.toList ++ rest)) : W h k n pc Ls st := by
  obtain ⟨p, e, s, m, args, below, meth, c, rfl, hx, hby, hml, hown, hrt', hlk, hZ, hnm, hw⟩ := C
  intro hE T locs X eT N
  subst hp
  obtain ⟨cell, hcl, hob⟩ := E.cell
  obtain ⟨v, vm₁, ⟨T', L', k', n'⟩, -, X', P, S⟩ := X.privateBack hx (y := y) hown (mvT hZ (hw _ w1)) (mvT hZ (hw _ w6)) (mvT hZ (hw _ w5)) (Cond.privateMethod_at (mvP (args := args) hZ (hw _ w7))) (mvT hZ (hw _ w4)) hy (backOf (Q := fun v h L => yQ v h ∧ Ext Z.heap h ∧ Fr Z.heap.size L) (W := wd) (con hE []) hZ (hw _ w4) (hw _ w3) hf hl) (g := mkF m pc Ls st) rfl (by show Ls.size = _; rw [hls, hml]) (Steps.refl _) (a := a) (by rw [eT]; exact hcl) hob (argsL := as) (rest := rest) (lenOf pd hlen) hst (by show 2 * 0 + _ ≤ _; omega) (hb hby hd) (fun _ _ => ⟨rfl, eT, hc, hs⟩)
  obtain ⟨Lc, ⟨hq, hE', hN⟩, l', y', z'⟩ := P
  dsimp only [Pt.U, Pt.locs, Pt.cells, Pt.slots] at X' l' y' z' S hq hE'
  subst l' y' z'
  obtain ⟨u, o, h1, h2⟩ := K v T'.heap hq hE' T' _ X' rfl (Fr.app N hN)
  exact ⟨u, o, S.trans h1, h2⟩
theorem Walk.callF (C : Walk W l Z a0 tb own code ml rt nm R Q) (pc' : Nat) {idx cnt : Nat} {a : Addr} {D : String} {x : MethodName} {y : MethodName} {yc : ByteArray} {ym : Nat} {yr : Option FieldType} {rm : Room} {as : List Value} {rest : List Value} {yQ : Option Value → Heap → Prop} {ps : List FieldType} {r : Option FieldType} (wd : Nat) (hd : decode code pc = .ok (.invokeinterface idx cnt, 5)) (hp : pc' = pc + 5) (w1 : Jvm.Cond.methodLink own idx x ∈ tb) (w2 : Jvm.Cond.declares x ∈ tb) (w7 : Jvm.Cond.interfaceMethod x.cls x.cls x.name x.desc ∈ tb) (w5 : Jvm.Cond.selects D x y ∈ tb) (w6 : Jvm.Cond.instanceMethod y ∈ tb) (w8 : Jvm.Cond.publicMethod y ∈ tb) (w9 : Jvm.Cond.unhidden D x.name x.desc ∈ tb) (w10 : Jvm.Cond.castable D x.cls ∈ tb) (hI : ((Jvm.Cond.interfaceMethod x.cls x.cls x.name x.desc).onTables && (Jvm.Cond.interfaceMethod x.cls x.cls x.name x.desc).keepsFace) = true) (w3 : Jvm.Cond.initialized y.cls ∈ tb) (w4 : Jvm.Cond.code y yc ym yr ∈ tb) (hy : x.cls ≠ "java/lang/invoke/MethodHandle" ∧ x.cls ≠ "java/lang/invoke/VarHandle") (E : Exa Z h a D) (con : Con l Z y yc ym yr rm (.ref a :: as).toArray h yQ) (pd : parseMethodDescriptor x.desc = some ⟨ps, r⟩) (hlen : as.length = ps.length) (hls : Ls.size = ml) (hwd : (rest.map fun v => v.category).sum ≤ wd) (hf : rm.frames + 1 ≤ R.frames) (hl : wd + (ym + 11) + rm.locals ≤ R.locals) (hc : k + rm.cells ≤ R.cells) (hs : n + rm.slots ≤ R.slots) (hst : st = as.reverse ++ .ref a :: rest)
    (K : ∀ v h', yQ v h' → W h' (k + rm.cells) (n + rm.slots) pc' Ls (v.toList ++ rest)) : W h k n pc Ls st := by
  obtain ⟨p, e, s, m, args, below, meth, c, rfl, hx, hby, hml, hown, hrt', hlk, hZ, hnm, hw⟩ := C
  intro hE T locs X eT N
  subst hp
  obtain ⟨cq, kq, q1, q2, q3⟩ := isOf (T := T) hZ eT E
  obtain ⟨v, vm₁, ⟨T', L', k', n'⟩, -, X', P, S⟩ := X.interfaceBack hx (xi := x) (y := y) hown (mvT hZ (hw _ w1)) (mvT hZ (hw _ w2)) (mvT hZ (hw _ w7) hI) (mvT hZ (hw _ w5)) (mvT hZ (hw _ w6)) (mvT hZ (hw _ w8)) (mvT hZ (hw _ w9)) (mvT hZ (hw _ w10)) hy (backOf (Q := fun v h L => yQ v h ∧ Ext Z.heap h ∧ Fr Z.heap.size L) (W := wd) (con hE []) hZ (hw _ w4) (hw _ w3) hf hl) q1 q2 q3 (g := mkF m pc Ls st) rfl (by show Ls.size = _; rw [hls, hml]) (Steps.refl _) (argsL := as) (rest := rest) (lenOf pd hlen) hst (by show 2 * 0 + _ ≤ _; omega) (hb hby hd) (fun _ _ => ⟨rfl, eT, hc, hs⟩)
  obtain ⟨Lc, ⟨hq, hE', hN⟩, l', y', z'⟩ := P
  dsimp only [Pt.U, Pt.locs, Pt.cells, Pt.slots] at X' l' y' z' S hq hE'
  subst l' y' z'
  obtain ⟨u, o, h1, h2⟩ := K v T'.heap hq hE' T' _ X' rfl (Fr.app N hN)
  exact ⟨u, o, S.trans h1, h2⟩
theorem Walk.instanceofT (C : Walk W l Z a0 tb own code ml rt nm R Q) (pc' : Nat) {idx : Nat} {D : String} {a : Addr} (hd : decode code pc = .ok (.instanceof idx, 3)) (hp : pc' = pc + 3) (w : Jvm.Cond.classLink own idx D ∈ tb) (I : Ins Z h a D true) (K : W h k n pc' Ls (.int 1 :: st)) : W h k n pc Ls (.ref a :: st) := by
  obtain ⟨p, e, s, m, args, below, meth, c, rfl, hx, hby, hml, hown, hrt', hlk, hZ, hnm, hw⟩ := C
  intro hE T locs X eT N
  subst hp
  obtain ⟨T', X', e', S⟩ := instY X hx hZ hown (hw _ w) eT I (g := mkF m pc Ls (.ref a :: st)) rfl rfl (hb hby hd)
  obtain ⟨u, o, h1, h2⟩ := K hE T' _ X' e' N
  exact ⟨u, o, S _ h1, h2⟩
theorem Ro.al {a : Addr} {D : String} {cA : ClassId} {vs : List Value} (A : Ro Z h a D cA vs) : Al Z h a (.object D) vs := by obtain ⟨c, A1, -, A3⟩ := A; exact ⟨c, A1, A3⟩
theorem Walk.aaloadA (C : Walk W l Z a0 tb own code ml rt nm R Q) (pc' : Nat) {a : Addr} {ty : FieldType} {vs : List Value} {j : Int32} (i : Nat) (v : Value) (hd : decode code pc = .ok (.aaload, 1)) (hp : pc' = pc + 1) (hty : ty.isReference = true) (A : Al Z h a ty vs) (hn : ¬ j < 0) (hi : j.toNatClampNeg = i) (hv : vs[i]? = some v)
    (K : W h k n pc' Ls (v :: st)) : W h k n pc Ls (.int j :: .ref a :: st) := by
  obtain ⟨p, e, s, m, args, below, meth, c, rfl, hx, hby, hml, hown, hrt', hlk, hZ, hnm, hw⟩ := C
  intro hE T locs X eT N
  subst hp
  obtain ⟨cl, A1, A3⟩ := A
  have hl : i < vs.length := (List.getElem?_eq_some_iff.mp hv).1
  have hj : ¬ (j < 0 ∨ cl.slots.size ≤ j.toNatClampNeg) := by rw [list_sz A3, hi]; exact fun q => q.elim hn (fun q => absurd hl (Nat.not_lt.mpr q))
  obtain ⟨u, o, h1, h2⟩ := K hE T _ X eT N
  exact ⟨u, o, X.aaload hx (by rw [eT]; exact A1.1) (State.isArrayOf_alike hZ.alike A1.2.1) hty A1.2.2 hj (by rw [hi, list_at A3]; exact hv) (g := mkF m pc Ls (.int j :: .ref a :: st)) rfl rfl (hb hby hd) _ h1, h2⟩
theorem Walk.clone (C : Walk W l Z a0 tb own code ml rt nm R Q) (pc' : Nat) {idx : Nat} {a : Addr} {ad : String} {cl : Cell} {ty : FieldType} (cap wd : Nat) (hd : decode code pc = .ok (.invokevirtual idx, 3)) (hp : pc' = pc + 3) (w1 : Jvm.Cond.methodLink own idx ⟨ad, "clone", "()Ljava/lang/Object;"⟩ ∈ tb) (w2 : Jvm.Cond.sameMethod ad "java/lang/Object" "clone" "()Ljava/lang/Object;" ∈ tb) (w3 : Jvm.Cond.native ⟨"java/lang/Object", "clone", "()Ljava/lang/Object;"⟩ ∈ tb) (w4 : Jvm.Cond.instanceMethod ⟨"java/lang/Object", "clone", "()Ljava/lang/Object;"⟩ ∈ tb) (w5 : Jvm.Cond.selects ad ⟨ad, "clone", "()Ljava/lang/Object;"⟩ ⟨"java/lang/Object", "clone", "()Ljava/lang/Object;"⟩ ∈ tb) (w6 : Jvm.Cond.castable ad "java/lang/Cloneable" ∈ tb)
    (A : Arr Z h a cl ty) (E : Exa Z h a ad) (F : FitC Z cl) (hls : Ls.size = ml) (hf : 1 ≤ R.frames) (hwd : (st.map fun v => v.category).sum ≤ wd) (hl : wd + 14 ≤ R.locals) (hcap : cl.slots.size ≤ cap) (hc : k + 1 ≤ R.cells) (hs : n + cap ≤ R.slots)
    (K : ∀ h', Ext h h' → Al Z h' h.size ty cl.slots.toList → Exa Z h' h.size ad → W h' (k + 1) (n + cap) pc' Ls (.ref h.size :: st)) : W h k n pc Ls (.ref a :: st) := by
  obtain ⟨p, e, s, m, args, below, meth, c, rfl, hx, hby, hml, hown, hrt', hlk, hZ, hnm, hw⟩ := C
  intro hE T locs X eT N
  subst hp
  obtain ⟨T', h', X', e', E', A', X2, S⟩ := cloneA X hx hZ hown (hw _ w1) (hw _ w2) (hw _ w3) (hw _ w4) (hw _ w5) (hw _ w6) eT A E F (g := mkF m pc Ls (.ref a :: st)) rfl (by show Ls.size = _; rw [hls, hml]) rfl (hb hby hd) hf (W := wd) (cap := cap) (by show 2 * 0 + _ ≤ _; omega) hl hcap hc hs
  obtain ⟨u, o, h1, h2⟩ := K h' E' ⟨_, A', rfl⟩ X2 (Old.ext (n0 := Z.heap.size) ⟨rfl, hE⟩ E').2 T' _ X' e' N
  exact ⟨u, o, S _ h1, h2⟩
end Rules
end Jvm.Own

namespace Jvm.Pilot.@@N@@
open Jvm Jvm.ClassFile Sem Op Lib Jvm.Free Jvm.Stand Jvm.LawKit Jvm.RoadKit Bundle Jvm.Own Jvm.Pilot.@@N@@.Jvm.D
theorem tw (i : Nat) {d : Jvm.Cond} (h : tables_1[i]? = some d := by rfl) : d ∈ tables_1 := List.mem_of_getElem? h
theorem d1_0 : decode method_2_code 0 = .ok (.iload_n 0, 1) := by decide +kernel
theorem d1_1 : decode method_2_code 1 = .ok (.ifCond .ne 7, 3) := by decide +kernel
theorem d1_4 : decode method_2_code 4 = .ok (.getstatic 7, 3) := by decide +kernel
theorem d1_7 : decode method_2_code 7 = .ok (.areturn, 1) := by decide +kernel
theorem d1_8 : decode method_2_code 8 = .ok (.iload_n 0, 1) := by decide +kernel
theorem d1_9 : decode method_2_code 9 = .ok (.iconst 1, 1) := by decide +kernel
theorem d1_10 : decode method_2_code 10 = .ok (.if_icmp .ne 7, 3) := by decide +kernel
theorem d1_13 : decode method_2_code 13 = .ok (.getstatic 13, 3) := by decide +kernel
theorem d1_16 : decode method_2_code 16 = .ok (.areturn, 1) := by decide +kernel
theorem d1_17 : decode method_2_code 17 = .ok (.iload_n 0, 1) := by decide +kernel
theorem d1_18 : decode method_2_code 18 = .ok (.iconst 2, 1) := by decide +kernel
theorem d1_19 : decode method_2_code 19 = .ok (.if_icmp .ne 7, 3) := by decide +kernel
theorem d1_22 : decode method_2_code 22 = .ok (.getstatic 16, 3) := by decide +kernel
theorem d1_25 : decode method_2_code 25 = .ok (.areturn, 1) := by decide +kernel
theorem d1_26 : decode method_2_code 26 = .ok (.iload_n 0, 1) := by decide +kernel
theorem d1_27 : decode method_2_code 27 = .ok (.iconst 3, 1) := by decide +kernel
theorem d1_28 : decode method_2_code 28 = .ok (.if_icmp .ne 7, 3) := by decide +kernel
theorem d1_31 : decode method_2_code 31 = .ok (.getstatic 19, 3) := by decide +kernel
theorem d1_34 : decode method_2_code 34 = .ok (.areturn, 1) := by decide +kernel
theorem d1_35 : decode method_2_code 35 = .ok (.iload_n 0, 1) := by decide +kernel
theorem d1_36 : decode method_2_code 36 = .ok (.iconst 4, 1) := by decide +kernel
theorem d1_37 : decode method_2_code 37 = .ok (.if_icmp .ne 7, 3) := by decide +kernel
theorem d1_40 : decode method_2_code 40 = .ok (.getstatic 22, 3) := by decide +kernel
theorem d1_43 : decode method_2_code 43 = .ok (.areturn, 1) := by decide +kernel
theorem d1_44 : decode method_2_code 44 = .ok (.getstatic 25, 3) := by decide +kernel
theorem d1_47 : decode method_2_code 47 = .ok (.areturn, 1) := by decide +kernel
theorem d2_0 : decode prog_16_method_4_code 0 = .ok (.aload_n 0, 1) := by decide +kernel
theorem d2_1 : decode prog_16_method_4_code 1 = .ok (.getstatic 7, 3) := by decide +kernel
theorem d2_4 : decode prog_16_method_4_code 4 = .ok (.if_acmp .eq 10, 3) := by decide +kernel
theorem d2_7 : decode prog_16_method_4_code 7 = .ok (.aload_n 0, 1) := by decide +kernel
theorem d2_8 : decode prog_16_method_4_code 8 = .ok (.getstatic 10, 3) := by decide +kernel
theorem d2_11 : decode prog_16_method_4_code 11 = .ok (.if_acmp .ne 7, 3) := by decide +kernel
theorem d2_14 : decode prog_16_method_4_code 14 = .ok (.iconst 1, 1) := by decide +kernel
theorem d2_15 : decode prog_16_method_4_code 15 = .ok (.goto 4, 3) := by decide +kernel
theorem d2_18 : decode prog_16_method_4_code 18 = .ok (.iconst 0, 1) := by decide +kernel
theorem d2_19 : decode prog_16_method_4_code 19 = .ok (.ireturn, 1) := by decide +kernel
theorem pn1 : plainFor (⟨"com/example/goneish/goneish/ReferencePolicySetsReferencePinLaw", "pick", "(I)Lcom/example/goneish/goneish/ReferencePolicy;"⟩ : MethodName) = true := plainFor_of_name (by first | (simp [plainName, overriddenIn]; done) | decide +kernel)
theorem pn2 : plainFor (⟨"com/example/goneish/goneish/ReferencePolicy", "setsReference", "()Z"⟩ : MethodName) = true := plainFor_of_name (by first | (simp [plainName, overriddenIn]; done) | decide +kernel)
theorem pn0 : plainFor x = true := plainFor_of_name (by first | (simp [x, plainName, overriddenIn]; done) | decide +kernel)
theorem pd1 : parseMethodDescriptor "(I)Lcom/example/goneish/goneish/ReferencePolicy;" = some ⟨[.int], some (.object "com/example/goneish/goneish/ReferencePolicy")⟩ := by decide +kernel
theorem pd2 : parseMethodDescriptor "()Z" = some ⟨[], some .boolean⟩ := by decide +kernel
abbrev Cs (Z : State) (f : String) (a : Addr) : Prop := Sta Z Z.heap "com/example/goneish/goneish/ReferencePolicy" f "Lcom/example/goneish/goneish/ReferencePolicy;" (.ref a)
theorem pick_0 (l : Launch) (Z : State) (a0' : Array Value) (hw : ∀ d ∈ tables_1, d.before a0' Z = true) (h : Heap) (a0 : Addr) (Sa0 : Cs Z "CASCADE" a0) :
    Con l Z (⟨"com/example/goneish/goneish/ReferencePolicySetsReferencePinLaw", "pick", "(I)Lcom/example/goneish/goneish/ReferencePolicy;"⟩ : MethodName) method_2_code 1 (some (.object "com/example/goneish/goneish/ReferencePolicy")) ⟨0, 0, 0, 0⟩ #[.int (0 : Int32)] h (Same (some (.ref a0)) h) := by
  refine Con.of (Ls := #[.val (.int (0 : Int32))]) hw pn1 (fun m => by first | (simp [entryFrame, mkF, argsToLocals, Value.category]; done) | rfl) fun W C => ?_
  refine C.iloadN 1 d1_0 rfl rfl ?_
  refine C.ifF 4 d1_1 rfl (by decide) ?_
  refine C.getstatic 7 d1_4 rfl (tw 6) Sa0 ?_
  exact C.retA (.object "com/example/goneish/goneish/ReferencePolicy") d1_7 rfl rfl rfl (by decide) (by decide) ⟨rfl, rfl⟩
theorem pick_1 (l : Launch) (Z : State) (a0' : Array Value) (hw : ∀ d ∈ tables_1, d.before a0' Z = true) (h : Heap) (a1 : Addr) (Sa1 : Cs Z "SET_NULL" a1) :
    Con l Z (⟨"com/example/goneish/goneish/ReferencePolicySetsReferencePinLaw", "pick", "(I)Lcom/example/goneish/goneish/ReferencePolicy;"⟩ : MethodName) method_2_code 1 (some (.object "com/example/goneish/goneish/ReferencePolicy")) ⟨0, 0, 0, 0⟩ #[.int (1 : Int32)] h (Same (some (.ref a1)) h) := by
  refine Con.of (Ls := #[.val (.int (1 : Int32))]) hw pn1 (fun m => by first | (simp [entryFrame, mkF, argsToLocals, Value.category]; done) | rfl) fun W C => ?_
  refine C.iloadN 1 d1_0 rfl rfl ?_
  refine C.ifT 8 d1_1 rfl (by decide) ?_
  refine C.iloadN 9 d1_8 rfl rfl ?_
  refine C.iconst 10 (1 : Int32) d1_9 rfl rfl ?_
  refine C.icmpF 13 d1_10 rfl (by decide) ?_
  refine C.getstatic 16 d1_13 rfl (tw 21) Sa1 ?_
  exact C.retA (.object "com/example/goneish/goneish/ReferencePolicy") d1_16 rfl rfl rfl (by decide) (by decide) ⟨rfl, rfl⟩
theorem pick_2 (l : Launch) (Z : State) (a0' : Array Value) (hw : ∀ d ∈ tables_1, d.before a0' Z = true) (h : Heap) (a2 : Addr) (Sa2 : Cs Z "SET_DEFAULT" a2) :
    Con l Z (⟨"com/example/goneish/goneish/ReferencePolicySetsReferencePinLaw", "pick", "(I)Lcom/example/goneish/goneish/ReferencePolicy;"⟩ : MethodName) method_2_code 1 (some (.object "com/example/goneish/goneish/ReferencePolicy")) ⟨0, 0, 0, 0⟩ #[.int (2 : Int32)] h (Same (some (.ref a2)) h) := by
  refine Con.of (Ls := #[.val (.int (2 : Int32))]) hw pn1 (fun m => by first | (simp [entryFrame, mkF, argsToLocals, Value.category]; done) | rfl) fun W C => ?_
  refine C.iloadN 1 d1_0 rfl rfl ?_
  refine C.ifT 8 d1_1 rfl (by decide) ?_
  refine C.iloadN 9 d1_8 rfl rfl ?_
  refine C.iconst 10 (1 : Int32) d1_9 rfl rfl ?_
  refine C.icmpT 17 d1_10 rfl (by decide) ?_
  refine C.iloadN 18 d1_17 rfl rfl ?_
  refine C.iconst 19 (2 : Int32) d1_18 rfl rfl ?_
  refine C.icmpF 22 d1_19 rfl (by decide) ?_
  refine C.getstatic 25 d1_22 rfl (tw 20) Sa2 ?_
  exact C.retA (.object "com/example/goneish/goneish/ReferencePolicy") d1_25 rfl rfl rfl (by decide) (by decide) ⟨rfl, rfl⟩
theorem pick_3 (l : Launch) (Z : State) (a0' : Array Value) (hw : ∀ d ∈ tables_1, d.before a0' Z = true) (h : Heap) (a3 : Addr) (Sa3 : Cs Z "DENY" a3) :
    Con l Z (⟨"com/example/goneish/goneish/ReferencePolicySetsReferencePinLaw", "pick", "(I)Lcom/example/goneish/goneish/ReferencePolicy;"⟩ : MethodName) method_2_code 1 (some (.object "com/example/goneish/goneish/ReferencePolicy")) ⟨0, 0, 0, 0⟩ #[.int (3 : Int32)] h (Same (some (.ref a3)) h) := by
  refine Con.of (Ls := #[.val (.int (3 : Int32))]) hw pn1 (fun m => by first | (simp [entryFrame, mkF, argsToLocals, Value.category]; done) | rfl) fun W C => ?_
  refine C.iloadN 1 d1_0 rfl rfl ?_
  refine C.ifT 8 d1_1 rfl (by decide) ?_
  refine C.iloadN 9 d1_8 rfl rfl ?_
  refine C.iconst 10 (1 : Int32) d1_9 rfl rfl ?_
  refine C.icmpT 17 d1_10 rfl (by decide) ?_
  refine C.iloadN 18 d1_17 rfl rfl ?_
  refine C.iconst 19 (2 : Int32) d1_18 rfl rfl ?_
  refine C.icmpT 26 d1_19 rfl (by decide) ?_
  refine C.iloadN 27 d1_26 rfl rfl ?_
  refine C.iconst 28 (3 : Int32) d1_27 rfl rfl ?_
  refine C.icmpF 31 d1_28 rfl (by decide) ?_
  refine C.getstatic 34 d1_31 rfl (tw 18) Sa3 ?_
  exact C.retA (.object "com/example/goneish/goneish/ReferencePolicy") d1_34 rfl rfl rfl (by decide) (by decide) ⟨rfl, rfl⟩
theorem pick_4 (l : Launch) (Z : State) (a0' : Array Value) (hw : ∀ d ∈ tables_1, d.before a0' Z = true) (h : Heap) (a4 : Addr) (Sa4 : Cs Z "DELETE_PHYSICALLY" a4) :
    Con l Z (⟨"com/example/goneish/goneish/ReferencePolicySetsReferencePinLaw", "pick", "(I)Lcom/example/goneish/goneish/ReferencePolicy;"⟩ : MethodName) method_2_code 1 (some (.object "com/example/goneish/goneish/ReferencePolicy")) ⟨0, 0, 0, 0⟩ #[.int (4 : Int32)] h (Same (some (.ref a4)) h) := by
  refine Con.of (Ls := #[.val (.int (4 : Int32))]) hw pn1 (fun m => by first | (simp [entryFrame, mkF, argsToLocals, Value.category]; done) | rfl) fun W C => ?_
  refine C.iloadN 1 d1_0 rfl rfl ?_
  refine C.ifT 8 d1_1 rfl (by decide) ?_
  refine C.iloadN 9 d1_8 rfl rfl ?_
  refine C.iconst 10 (1 : Int32) d1_9 rfl rfl ?_
  refine C.icmpT 17 d1_10 rfl (by decide) ?_
  refine C.iloadN 18 d1_17 rfl rfl ?_
  refine C.iconst 19 (2 : Int32) d1_18 rfl rfl ?_
  refine C.icmpT 26 d1_19 rfl (by decide) ?_
  refine C.iloadN 27 d1_26 rfl rfl ?_
  refine C.iconst 28 (3 : Int32) d1_27 rfl rfl ?_
  refine C.icmpT 35 d1_28 rfl (by decide) ?_
  refine C.iloadN 36 d1_35 rfl rfl ?_
  refine C.iconst 37 (4 : Int32) d1_36 rfl rfl ?_
  refine C.icmpF 40 d1_37 rfl (by decide) ?_
  refine C.getstatic 43 d1_40 rfl (tw 24) Sa4 ?_
  exact C.retA (.object "com/example/goneish/goneish/ReferencePolicy") d1_43 rfl rfl rfl (by decide) (by decide) ⟨rfl, rfl⟩
theorem pick_5 (l : Launch) (Z : State) (a0' : Array Value) (hw : ∀ d ∈ tables_1, d.before a0' Z = true) (h : Heap) (a5 : Addr) (Sa5 : Cs Z "KEEP" a5) :
    Con l Z (⟨"com/example/goneish/goneish/ReferencePolicySetsReferencePinLaw", "pick", "(I)Lcom/example/goneish/goneish/ReferencePolicy;"⟩ : MethodName) method_2_code 1 (some (.object "com/example/goneish/goneish/ReferencePolicy")) ⟨0, 0, 0, 0⟩ #[.int (5 : Int32)] h (Same (some (.ref a5)) h) := by
  refine Con.of (Ls := #[.val (.int (5 : Int32))]) hw pn1 (fun m => by first | (simp [entryFrame, mkF, argsToLocals, Value.category]; done) | rfl) fun W C => ?_
  refine C.iloadN 1 d1_0 rfl rfl ?_
  refine C.ifT 8 d1_1 rfl (by decide) ?_
  refine C.iloadN 9 d1_8 rfl rfl ?_
  refine C.iconst 10 (1 : Int32) d1_9 rfl rfl ?_
  refine C.icmpT 17 d1_10 rfl (by decide) ?_
  refine C.iloadN 18 d1_17 rfl rfl ?_
  refine C.iconst 19 (2 : Int32) d1_18 rfl rfl ?_
  refine C.icmpT 26 d1_19 rfl (by decide) ?_
  refine C.iloadN 27 d1_26 rfl rfl ?_
  refine C.iconst 28 (3 : Int32) d1_27 rfl rfl ?_
  refine C.icmpT 35 d1_28 rfl (by decide) ?_
  refine C.iloadN 36 d1_35 rfl rfl ?_
  refine C.iconst 37 (4 : Int32) d1_36 rfl rfl ?_
  refine C.icmpT 44 d1_37 rfl (by decide) ?_
  refine C.getstatic 47 d1_44 rfl (tw 22) Sa5 ?_
  exact C.retA (.object "com/example/goneish/goneish/ReferencePolicy") d1_47 rfl rfl rfl (by decide) (by decide) ⟨rfl, rfl⟩
theorem sr_n (l : Launch) (Z : State) (a0' : Array Value) (hw : ∀ d ∈ tables_1, d.before a0' Z = true) (h : Heap) (a a1 a2 : Addr) (Sa1 : Cs Z "SET_NULL" a1) (Sa2 : Cs Z "SET_DEFAULT" a2) (hx : a = a1) :
    Con l Z (⟨"com/example/goneish/goneish/ReferencePolicy", "setsReference", "()Z"⟩ : MethodName) prog_16_method_4_code 1 (some .boolean) ⟨0, 0, 0, 0⟩ #[.ref a] h (Same (some (.int (1 : Int32))) h) := by
  refine Con.of (Ls := #[.val (.ref a)]) hw pn2 (fun m => by first | (simp [entryFrame, mkF, argsToLocals, Value.category]; done) | rfl) fun W C => ?_
  refine C.aloadN 1 d2_0 rfl rfl rfl ?_
  refine C.getstatic 4 d2_1 rfl (tw 14) Sa1 ?_
  refine C.acmpT 14 d2_4 rfl rfl rfl (by simp [XT.acmp, hx]) ?_
  refine C.iconst 15 (1 : Int32) d2_14 rfl rfl ?_
  refine C.goto 19 d2_15 rfl ?_
  exact C.retI .boolean d2_19 rfl (by simp) rfl (by decide) (by decide) ⟨rfl, rfl⟩
theorem sr_d (l : Launch) (Z : State) (a0' : Array Value) (hw : ∀ d ∈ tables_1, d.before a0' Z = true) (h : Heap) (a a1 a2 : Addr) (Sa1 : Cs Z "SET_NULL" a1) (Sa2 : Cs Z "SET_DEFAULT" a2) (hx : ¬ a = a1) (hy : a = a2) :
    Con l Z (⟨"com/example/goneish/goneish/ReferencePolicy", "setsReference", "()Z"⟩ : MethodName) prog_16_method_4_code 1 (some .boolean) ⟨0, 0, 0, 0⟩ #[.ref a] h (Same (some (.int (1 : Int32))) h) := by
  refine Con.of (Ls := #[.val (.ref a)]) hw pn2 (fun m => by first | (simp [entryFrame, mkF, argsToLocals, Value.category]; done) | rfl) fun W C => ?_
  refine C.aloadN 1 d2_0 rfl rfl rfl ?_
  refine C.getstatic 4 d2_1 rfl (tw 14) Sa1 ?_
  refine C.acmpF 7 d2_4 rfl rfl rfl (by simp [XT.acmp, hx]) ?_
  refine C.aloadN 8 d2_7 rfl rfl rfl ?_
  refine C.getstatic 11 d2_8 rfl (tw 16) Sa2 ?_
  refine C.acmpF 14 d2_11 rfl rfl rfl (by simp [XT.acmp, hy]) ?_
  refine C.iconst 15 (1 : Int32) d2_14 rfl rfl ?_
  refine C.goto 19 d2_15 rfl ?_
  exact C.retI .boolean d2_19 rfl (by simp) rfl (by decide) (by decide) ⟨rfl, rfl⟩
theorem sr_o (l : Launch) (Z : State) (a0' : Array Value) (hw : ∀ d ∈ tables_1, d.before a0' Z = true) (h : Heap) (a a1 a2 : Addr) (Sa1 : Cs Z "SET_NULL" a1) (Sa2 : Cs Z "SET_DEFAULT" a2) (hx : ¬ a = a1) (hy : ¬ a = a2) :
    Con l Z (⟨"com/example/goneish/goneish/ReferencePolicy", "setsReference", "()Z"⟩ : MethodName) prog_16_method_4_code 1 (some .boolean) ⟨0, 0, 0, 0⟩ #[.ref a] h (Same (some (.int (0 : Int32))) h) := by
  refine Con.of (Ls := #[.val (.ref a)]) hw pn2 (fun m => by first | (simp [entryFrame, mkF, argsToLocals, Value.category]; done) | rfl) fun W C => ?_
  refine C.aloadN 1 d2_0 rfl rfl rfl ?_
  refine C.getstatic 4 d2_1 rfl (tw 14) Sa1 ?_
  refine C.acmpF 7 d2_4 rfl rfl rfl (by simp [XT.acmp, hx]) ?_
  refine C.aloadN 8 d2_7 rfl rfl rfl ?_
  refine C.getstatic 11 d2_8 rfl (tw 16) Sa2 ?_
  refine C.acmpT 18 d2_11 rfl rfl rfl (by simp [XT.acmp, hy]) ?_
  refine C.iconst 19 (0 : Int32) d2_18 rfl rfl ?_
  exact C.retI .boolean d2_19 rfl (by simp) rfl (by decide) (by decide) ⟨rfl, rfl⟩
theorem fld_of {s : State} {args : Array Value} {t : Term} {a : Addr} {C f : String} {z : Int32} (ht : t.eval args s none [] s = some (.ref a)) (h : (Jvm.Cond.eq (Jvm.Term.field t C f "I") (Jvm.Term.int z)).value args s none s [] = some true) : Fld s s.heap a C f "I" (.int z) :=
  Fld.start ((fld_at ht).symm.trans (eqv_i (Term.int_eval (z)) h))
theorem rem6 (p : Int32) : (p &&& (2147483647 : Int32)) % (6 : Int32) = 0 ∨ (p &&& (2147483647 : Int32)) % (6 : Int32) = 1 ∨ (p &&& (2147483647 : Int32)) % (6 : Int32) = 2 ∨ (p &&& (2147483647 : Int32)) % (6 : Int32) = 3 ∨ (p &&& (2147483647 : Int32)) % (6 : Int32) = 4 ∨ (p &&& (2147483647 : Int32)) % (6 : Int32) = 5 := by
  have h1 := c_and p (2147483647 : Int32) (by decide)
  have h2 := (c_irem (p &&& (2147483647 : Int32)) (6 : Int32) 6 rfl).1 h1.1
  generalize (p &&& (2147483647 : Int32)) % (6 : Int32) = r at h2 ⊢
  simp only [← Int32.toInt_inj]
  have e0 : (0 : Int32).toInt = 0 := rfl
  have e1 : (1 : Int32).toInt = 1 := rfl
  have e2 : (2 : Int32).toInt = 2 := rfl
  have e3 : (3 : Int32).toInt = 3 := rfl
  have e4 : (4 : Int32).toInt = 4 := rfl
  have e5 : (5 : Int32).toInt = 5 := rfl
  omega
set_option maxRecDepth 65536 in
set_option maxHeartbeats 40000000 in
theorem law_con (l : Launch) (Z : State) (a0' : Array Value) (hw : ∀ d ∈ tables_1, d.before a0' Z = true) (p : Int32) (a0 a1 a2 a3 a4 a5 : Addr) (Sa0 : Cs Z "CASCADE" a0) (Ea0 : Exa Z Z.heap a0 "com/example/goneish/goneish/ReferencePolicy") (Sa1 : Cs Z "SET_NULL" a1) (Ea1 : Exa Z Z.heap a1 "com/example/goneish/goneish/ReferencePolicy") (Sa2 : Cs Z "SET_DEFAULT" a2) (Ea2 : Exa Z Z.heap a2 "com/example/goneish/goneish/ReferencePolicy") (Sa3 : Cs Z "DENY" a3) (Ea3 : Exa Z Z.heap a3 "com/example/goneish/goneish/ReferencePolicy") (Sa4 : Cs Z "DELETE_PHYSICALLY" a4) (Ea4 : Exa Z Z.heap a4 "com/example/goneish/goneish/ReferencePolicy") (Sa5 : Cs Z "KEEP" a5) (Ea5 : Exa Z Z.heap a5 "com/example/goneish/goneish/ReferencePolicy") (ne01 : ¬ a0 = a1) (ne02 : ¬ a0 = a2) (ne21 : ¬ a2 = a1) (ne31 : ¬ a3 = a1) (ne32 : ¬ a3 = a2) (ne41 : ¬ a4 = a1) (ne42 : ¬ a4 = a2) (ne51 : ¬ a5 = a1) (ne52 : ¬ a5 = a2) :
    Con l Z x code maxLocals ret room_1 #[.int p] Z.heap (fun v _ => v = some (.int 1)) := by
  refine Con.of (Ls := #[.val (.int p), .unset, .unset, .unset]) hw pn0 (fun m => by first | (simp [entryFrame, mkF, argsToLocals, Value.category, maxLocals]; done) | rfl) fun W C => ?_
  have z0 : Z.heap.size ≤ Z.heap.size := Nat.le_refl _
  refine C.iloadN 1 at_0 rfl rfl ?_
  refine C.ldc 3 (2147483647 : Int32) at_1 rfl (tw 0) ?_
  refine C.iand 4 at_3 rfl ?_
  refine C.bipush 6 (6 : Int32) at_4 rfl rfl ?_
  refine C.irem 7 at_6 rfl (by decide) ?_
  refine C.istoreN 8 #[.val (.int p), .val (.int ((p &&& (2147483647 : Int32)) % (6 : Int32))), .unset, .unset] at_7 rfl rfl ?_
  refine C.bipush 10 (6 : Int32) at_8 rfl rfl ?_
  refine C.newarray 12 6 at_10 rfl (tw 1) (by decide) (by decide) (by decide) (by decide) (by decide) ?_
  intro h1 E1 A1
  obtain ⟨b1, g1⟩ : ∃ z, z = Z.heap.size := ⟨_, rfl⟩
  rw [← g1] at A1 ⊢
  have Ab1_1 : Al Z h1 b1 .boolean [.int (0 : Int32), .int (0 : Int32), .int (0 : Int32), .int (0 : Int32), .int (0 : Int32), .int (0 : Int32)] := A1
  have z1 : Z.heap.size ≤ h1.size := Nat.le_trans z0 E1.1
  have zb1 : Z.heap.size ≤ b1 := by rw [g1]; exact z0
  show W h1 1 6 12 #[.val (.int p), .val (.int ((p &&& (2147483647 : Int32)) % (6 : Int32))), .unset, .unset] [.ref b1]
  refine C.dup 13 at_12 rfl rfl ?_
  refine C.iconst 14 (0 : Int32) at_13 rfl rfl ?_
  refine C.iconst 15 (0 : Int32) at_14 rfl rfl ?_
  refine C.bastoreZ 16 0 (0 : Int32) at_15 rfl Ab1_1 zb1 (by decide) rfl (Nat.le_of_ble_eq_true rfl) rfl ?_
  intro h2 W2 A2
  have Ab1_2 : Al Z h2 b1 .boolean [.int (0 : Int32), .int (0 : Int32), .int (0 : Int32), .int (0 : Int32), .int (0 : Int32), .int (0 : Int32)] := A2
  have z2 : Z.heap.size ≤ h2.size := by rw [W2.size]; exact z1
  refine C.dup 17 at_16 rfl rfl ?_
  refine C.iconst 18 (1 : Int32) at_17 rfl rfl ?_
  refine C.iconst 19 (1 : Int32) at_18 rfl rfl ?_
  refine C.bastoreZ 20 1 (1 : Int32) at_19 rfl Ab1_2 zb1 (by decide) rfl (Nat.le_of_ble_eq_true rfl) rfl ?_
  intro h3 W3 A3
  have Ab1_3 : Al Z h3 b1 .boolean [.int (0 : Int32), .int (1 : Int32), .int (0 : Int32), .int (0 : Int32), .int (0 : Int32), .int (0 : Int32)] := A3
  have z3 : Z.heap.size ≤ h3.size := by rw [W3.size]; exact z2
  refine C.dup 21 at_20 rfl rfl ?_
  refine C.iconst 22 (2 : Int32) at_21 rfl rfl ?_
  refine C.iconst 23 (1 : Int32) at_22 rfl rfl ?_
  refine C.bastoreZ 24 2 (1 : Int32) at_23 rfl Ab1_3 zb1 (by decide) rfl (Nat.le_of_ble_eq_true rfl) rfl ?_
  intro h4 W4 A4
  have Ab1_4 : Al Z h4 b1 .boolean [.int (0 : Int32), .int (1 : Int32), .int (1 : Int32), .int (0 : Int32), .int (0 : Int32), .int (0 : Int32)] := A4
  have z4 : Z.heap.size ≤ h4.size := by rw [W4.size]; exact z3
  refine C.dup 25 at_24 rfl rfl ?_
  refine C.iconst 26 (3 : Int32) at_25 rfl rfl ?_
  refine C.iconst 27 (0 : Int32) at_26 rfl rfl ?_
  refine C.bastoreZ 28 3 (0 : Int32) at_27 rfl Ab1_4 zb1 (by decide) rfl (Nat.le_of_ble_eq_true rfl) rfl ?_
  intro h5 W5 A5
  have Ab1_5 : Al Z h5 b1 .boolean [.int (0 : Int32), .int (1 : Int32), .int (1 : Int32), .int (0 : Int32), .int (0 : Int32), .int (0 : Int32)] := A5
  have z5 : Z.heap.size ≤ h5.size := by rw [W5.size]; exact z4
  refine C.dup 29 at_28 rfl rfl ?_
  refine C.iconst 30 (4 : Int32) at_29 rfl rfl ?_
  refine C.iconst 31 (0 : Int32) at_30 rfl rfl ?_
  refine C.bastoreZ 32 4 (0 : Int32) at_31 rfl Ab1_5 zb1 (by decide) rfl (Nat.le_of_ble_eq_true rfl) rfl ?_
  intro h6 W6 A6
  have Ab1_6 : Al Z h6 b1 .boolean [.int (0 : Int32), .int (1 : Int32), .int (1 : Int32), .int (0 : Int32), .int (0 : Int32), .int (0 : Int32)] := A6
  have z6 : Z.heap.size ≤ h6.size := by rw [W6.size]; exact z5
  refine C.dup 33 at_32 rfl rfl ?_
  refine C.iconst 34 (5 : Int32) at_33 rfl rfl ?_
  refine C.iconst 35 (0 : Int32) at_34 rfl rfl ?_
  refine C.bastoreZ 36 5 (0 : Int32) at_35 rfl Ab1_6 zb1 (by decide) rfl (Nat.le_of_ble_eq_true rfl) rfl ?_
  intro h7 W7 A7
  have Ab1_7 : Al Z h7 b1 .boolean [.int (0 : Int32), .int (1 : Int32), .int (1 : Int32), .int (0 : Int32), .int (0 : Int32), .int (0 : Int32)] := A7
  have z7 : Z.heap.size ≤ h7.size := by rw [W7.size]; exact z6
  refine C.astoreN 37 #[.val (.int p), .val (.int ((p &&& (2147483647 : Int32)) % (6 : Int32))), .val (.ref b1), .unset] at_36 rfl rfl rfl ?_
  generalize hi : (p &&& (2147483647 : Int32)) % (6 : Int32) = i
  have hc := rem6 p
  rw [hi] at hc
  rcases hc with rfl | rfl | rfl | rfl | rfl | rfl
  · show W h7 1 6 37 #[.val (.int p), .val (.int (0 : Int32)), .val (.ref b1), .unset] []
    refine C.iloadN 38 at_37 rfl rfl ?_
    refine C.callS 41 (as := [.int (0 : Int32)]) (rest := []) (rm := ⟨0, 0, 0, 0⟩) 0 at_38 rfl (tw 2) (tw 3) (tw 4) (tw 5) (by decide) (pick_0 l Z a0' hw _ a0 Sa0) pd1 rfl rfl (by decide) (by decide) (by decide) (by decide) (by decide) rfl ?_
    refine same_intro ?_
    show W h7 1 6 41 #[.val (.int p), .val (.int (0 : Int32)), .val (.ref b1), .unset] [.ref a0]
    refine C.astoreN 42 #[.val (.int p), .val (.int (0 : Int32)), .val (.ref b1), .val (.ref a0)] at_41 rfl rfl rfl ?_
    refine C.aloadN 43 at_42 rfl rfl rfl ?_
    refine C.kept fun hE => ?_
    refine C.callV 46 (as := []) (rest := []) (rm := ⟨0, 0, 0, 0⟩) 0 at_43 rfl (tw 9) (tw 10) (tw 12) nfSelf (tw 11) (tw 7) (tw 13) (by decide) (Ea0.ext hE) (sr_o l Z a0' hw _ a0 a1 a2 Sa1 Sa2 ne01 ne02) pd2 rfl rfl (by decide) (by decide) (by decide) (by decide) (by decide) rfl ?_
    refine same_intro ?_
    show W h7 1 6 46 #[.val (.int p), .val (.int (0 : Int32)), .val (.ref b1), .val (.ref a0)] [.int (0 : Int32)]
    refine C.aloadN 47 at_46 rfl rfl rfl ?_
    refine C.iloadN 48 at_47 rfl rfl ?_
    refine C.baloadZ 49 0 (.int (0 : Int32)) at_48 rfl Ab1_7 (by decide) rfl rfl ?_
    refine C.icmpF 52 at_49 rfl (by decide) ?_
    refine C.iconst 53 (1 : Int32) at_52 rfl rfl ?_
    refine C.goto 57 at_53 rfl ?_
    exact C.retI .boolean at_57 rfl (by simp) rfl (by decide) (by decide) rfl
  · show W h7 1 6 37 #[.val (.int p), .val (.int (1 : Int32)), .val (.ref b1), .unset] []
    refine C.iloadN 38 at_37 rfl rfl ?_
    refine C.callS 41 (as := [.int (1 : Int32)]) (rest := []) (rm := ⟨0, 0, 0, 0⟩) 0 at_38 rfl (tw 2) (tw 3) (tw 4) (tw 5) (by decide) (pick_1 l Z a0' hw _ a1 Sa1) pd1 rfl rfl (by decide) (by decide) (by decide) (by decide) (by decide) rfl ?_
    refine same_intro ?_
    show W h7 1 6 41 #[.val (.int p), .val (.int (1 : Int32)), .val (.ref b1), .unset] [.ref a1]
    refine C.astoreN 42 #[.val (.int p), .val (.int (1 : Int32)), .val (.ref b1), .val (.ref a1)] at_41 rfl rfl rfl ?_
    refine C.aloadN 43 at_42 rfl rfl rfl ?_
    refine C.kept fun hE => ?_
    refine C.callV 46 (as := []) (rest := []) (rm := ⟨0, 0, 0, 0⟩) 0 at_43 rfl (tw 9) (tw 10) (tw 12) nfSelf (tw 11) (tw 7) (tw 13) (by decide) (Ea1.ext hE) (sr_n l Z a0' hw _ a1 a1 a2 Sa1 Sa2 rfl) pd2 rfl rfl (by decide) (by decide) (by decide) (by decide) (by decide) rfl ?_
    refine same_intro ?_
    show W h7 1 6 46 #[.val (.int p), .val (.int (1 : Int32)), .val (.ref b1), .val (.ref a1)] [.int (1 : Int32)]
    refine C.aloadN 47 at_46 rfl rfl rfl ?_
    refine C.iloadN 48 at_47 rfl rfl ?_
    refine C.baloadZ 49 1 (.int (1 : Int32)) at_48 rfl Ab1_7 (by decide) rfl rfl ?_
    refine C.icmpF 52 at_49 rfl (by decide) ?_
    refine C.iconst 53 (1 : Int32) at_52 rfl rfl ?_
    refine C.goto 57 at_53 rfl ?_
    exact C.retI .boolean at_57 rfl (by simp) rfl (by decide) (by decide) rfl
  · show W h7 1 6 37 #[.val (.int p), .val (.int (2 : Int32)), .val (.ref b1), .unset] []
    refine C.iloadN 38 at_37 rfl rfl ?_
    refine C.callS 41 (as := [.int (2 : Int32)]) (rest := []) (rm := ⟨0, 0, 0, 0⟩) 0 at_38 rfl (tw 2) (tw 3) (tw 4) (tw 5) (by decide) (pick_2 l Z a0' hw _ a2 Sa2) pd1 rfl rfl (by decide) (by decide) (by decide) (by decide) (by decide) rfl ?_
    refine same_intro ?_
    show W h7 1 6 41 #[.val (.int p), .val (.int (2 : Int32)), .val (.ref b1), .unset] [.ref a2]
    refine C.astoreN 42 #[.val (.int p), .val (.int (2 : Int32)), .val (.ref b1), .val (.ref a2)] at_41 rfl rfl rfl ?_
    refine C.aloadN 43 at_42 rfl rfl rfl ?_
    refine C.kept fun hE => ?_
    refine C.callV 46 (as := []) (rest := []) (rm := ⟨0, 0, 0, 0⟩) 0 at_43 rfl (tw 9) (tw 10) (tw 12) nfSelf (tw 11) (tw 7) (tw 13) (by decide) (Ea2.ext hE) (sr_d l Z a0' hw _ a2 a1 a2 Sa1 Sa2 ne21 rfl) pd2 rfl rfl (by decide) (by decide) (by decide) (by decide) (by decide) rfl ?_
    refine same_intro ?_
    show W h7 1 6 46 #[.val (.int p), .val (.int (2 : Int32)), .val (.ref b1), .val (.ref a2)] [.int (1 : Int32)]
    refine C.aloadN 47 at_46 rfl rfl rfl ?_
    refine C.iloadN 48 at_47 rfl rfl ?_
    refine C.baloadZ 49 2 (.int (1 : Int32)) at_48 rfl Ab1_7 (by decide) rfl rfl ?_
    refine C.icmpF 52 at_49 rfl (by decide) ?_
    refine C.iconst 53 (1 : Int32) at_52 rfl rfl ?_
    refine C.goto 57 at_53 rfl ?_
    exact C.retI .boolean at_57 rfl (by simp) rfl (by decide) (by decide) rfl
  · show W h7 1 6 37 #[.val (.int p), .val (.int (3 : Int32)), .val (.ref b1), .unset] []
    refine C.iloadN 38 at_37 rfl rfl ?_
    refine C.callS 41 (as := [.int (3 : Int32)]) (rest := []) (rm := ⟨0, 0, 0, 0⟩) 0 at_38 rfl (tw 2) (tw 3) (tw 4) (tw 5) (by decide) (pick_3 l Z a0' hw _ a3 Sa3) pd1 rfl rfl (by decide) (by decide) (by decide) (by decide) (by decide) rfl ?_
    refine same_intro ?_
    show W h7 1 6 41 #[.val (.int p), .val (.int (3 : Int32)), .val (.ref b1), .unset] [.ref a3]
    refine C.astoreN 42 #[.val (.int p), .val (.int (3 : Int32)), .val (.ref b1), .val (.ref a3)] at_41 rfl rfl rfl ?_
    refine C.aloadN 43 at_42 rfl rfl rfl ?_
    refine C.kept fun hE => ?_
    refine C.callV 46 (as := []) (rest := []) (rm := ⟨0, 0, 0, 0⟩) 0 at_43 rfl (tw 9) (tw 10) (tw 12) nfSelf (tw 11) (tw 7) (tw 13) (by decide) (Ea3.ext hE) (sr_o l Z a0' hw _ a3 a1 a2 Sa1 Sa2 ne31 ne32) pd2 rfl rfl (by decide) (by decide) (by decide) (by decide) (by decide) rfl ?_
    refine same_intro ?_
    show W h7 1 6 46 #[.val (.int p), .val (.int (3 : Int32)), .val (.ref b1), .val (.ref a3)] [.int (0 : Int32)]
    refine C.aloadN 47 at_46 rfl rfl rfl ?_
    refine C.iloadN 48 at_47 rfl rfl ?_
    refine C.baloadZ 49 3 (.int (0 : Int32)) at_48 rfl Ab1_7 (by decide) rfl rfl ?_
    refine C.icmpF 52 at_49 rfl (by decide) ?_
    refine C.iconst 53 (1 : Int32) at_52 rfl rfl ?_
    refine C.goto 57 at_53 rfl ?_
    exact C.retI .boolean at_57 rfl (by simp) rfl (by decide) (by decide) rfl
  · show W h7 1 6 37 #[.val (.int p), .val (.int (4 : Int32)), .val (.ref b1), .unset] []
    refine C.iloadN 38 at_37 rfl rfl ?_
    refine C.callS 41 (as := [.int (4 : Int32)]) (rest := []) (rm := ⟨0, 0, 0, 0⟩) 0 at_38 rfl (tw 2) (tw 3) (tw 4) (tw 5) (by decide) (pick_4 l Z a0' hw _ a4 Sa4) pd1 rfl rfl (by decide) (by decide) (by decide) (by decide) (by decide) rfl ?_
    refine same_intro ?_
    show W h7 1 6 41 #[.val (.int p), .val (.int (4 : Int32)), .val (.ref b1), .unset] [.ref a4]
    refine C.astoreN 42 #[.val (.int p), .val (.int (4 : Int32)), .val (.ref b1), .val (.ref a4)] at_41 rfl rfl rfl ?_
    refine C.aloadN 43 at_42 rfl rfl rfl ?_
    refine C.kept fun hE => ?_
    refine C.callV 46 (as := []) (rest := []) (rm := ⟨0, 0, 0, 0⟩) 0 at_43 rfl (tw 9) (tw 10) (tw 12) nfSelf (tw 11) (tw 7) (tw 13) (by decide) (Ea4.ext hE) (sr_o l Z a0' hw _ a4 a1 a2 Sa1 Sa2 ne41 ne42) pd2 rfl rfl (by decide) (by decide) (by decide) (by decide) (by decide) rfl ?_
    refine same_intro ?_
    show W h7 1 6 46 #[.val (.int p), .val (.int (4 : Int32)), .val (.ref b1), .val (.ref a4)] [.int (0 : Int32)]
    refine C.aloadN 47 at_46 rfl rfl rfl ?_
    refine C.iloadN 48 at_47 rfl rfl ?_
    refine C.baloadZ 49 4 (.int (0 : Int32)) at_48 rfl Ab1_7 (by decide) rfl rfl ?_
    refine C.icmpF 52 at_49 rfl (by decide) ?_
    refine C.iconst 53 (1 : Int32) at_52 rfl rfl ?_
    refine C.goto 57 at_53 rfl ?_
    exact C.retI .boolean at_57 rfl (by simp) rfl (by decide) (by decide) rfl
  · show W h7 1 6 37 #[.val (.int p), .val (.int (5 : Int32)), .val (.ref b1), .unset] []
    refine C.iloadN 38 at_37 rfl rfl ?_
    refine C.callS 41 (as := [.int (5 : Int32)]) (rest := []) (rm := ⟨0, 0, 0, 0⟩) 0 at_38 rfl (tw 2) (tw 3) (tw 4) (tw 5) (by decide) (pick_5 l Z a0' hw _ a5 Sa5) pd1 rfl rfl (by decide) (by decide) (by decide) (by decide) (by decide) rfl ?_
    refine same_intro ?_
    show W h7 1 6 41 #[.val (.int p), .val (.int (5 : Int32)), .val (.ref b1), .unset] [.ref a5]
    refine C.astoreN 42 #[.val (.int p), .val (.int (5 : Int32)), .val (.ref b1), .val (.ref a5)] at_41 rfl rfl rfl ?_
    refine C.aloadN 43 at_42 rfl rfl rfl ?_
    refine C.kept fun hE => ?_
    refine C.callV 46 (as := []) (rest := []) (rm := ⟨0, 0, 0, 0⟩) 0 at_43 rfl (tw 9) (tw 10) (tw 12) nfSelf (tw 11) (tw 7) (tw 13) (by decide) (Ea5.ext hE) (sr_o l Z a0' hw _ a5 a1 a2 Sa1 Sa2 ne51 ne52) pd2 rfl rfl (by decide) (by decide) (by decide) (by decide) (by decide) rfl ?_
    refine same_intro ?_
    show W h7 1 6 46 #[.val (.int p), .val (.int (5 : Int32)), .val (.ref b1), .val (.ref a5)] [.int (0 : Int32)]
    refine C.aloadN 47 at_46 rfl rfl rfl ?_
    refine C.iloadN 48 at_47 rfl rfl ?_
    refine C.baloadZ 49 5 (.int (0 : Int32)) at_48 rfl Ab1_7 (by decide) rfl rfl ?_
    refine C.icmpF 52 at_49 rfl (by decide) ?_
    refine C.iconst 53 (1 : Int32) at_52 rfl rfl ?_
    refine C.goto 57 at_53 rfl ?_
    exact C.retI .boolean at_57 rfl (by simp) rfl (by decide) (by decide) rfl
set_option maxRecDepth 65536 in
set_option maxHeartbeats 40000000 in
theorem comes_1 {Post : Tables → Env → Array Value → State → Outcome → State → Prop} (hpost : ∀ tb e args s v u, (limb_1_1.after args s (.returned v) u = true ∧ limb_1_2.after args s (.returned v) u = true ∧ True) → FrameEnd s (.returned v) u (Jvm.fieldLocs frame_1_writes args s ++ Jvm.arrayLocs frame_1_arrays args s ++ Jvm.staticLocs frame_1_statics s) 16 128 → Post tb e args s (.returned v) u) :
    ArmFor flags0 classFile x code maxLocals ret World_1 tables_1 room_1 Calls_1 rest_1 Pre_1 Post := by
  intro l hfl _ _ p e ha hc hk s m args below hf hA hF happ hP
  obtain ⟨hcalls, hrest, hpre⟩ := hP
  obtain ⟨-, -, -, hnamed, -, -, -, hat⟩ := (Spec.applies_iff hf).mp happ
  obtain ⟨hg, hn⟩ := and_e (Cond.before_iff.mp (show (Jvm.Cond.and given_1 narrow_1).before args s = true from hpre))
  obtain ⟨h1, h2⟩ := and_e hg
  obtain ⟨w0, rfl⟩ : ∃ w0 : Value, args = #[w0] := by
    have hs : args.size = 1 := by simpa [Cond.value, given_1] using h1
    obtain ⟨L⟩ := args
    match L, hs with
    | [w0], _ => exact ⟨w0, rfl⟩
  have hw := fun d (hd : d ∈ tables_1) => atoms_spec (ws := Jvm.Cond.code x code maxLocals ret :: tables_1) hat d (List.mem_cons_of_mem _ hd)
  obtain ⟨i4, e3⟩ := is_v h2
  obtain rfl : w0 = (.int i4) := Option.some.inj e3
  obtain ⟨n0, hn⟩ := and_e hn
  obtain ⟨n1, hn⟩ := and_e hn
  obtain ⟨o0, hn⟩ := and_e hn
  obtain ⟨o1, hn⟩ := and_e hn
  obtain ⟨n2, hn⟩ := and_e hn
  obtain ⟨o2, hn⟩ := and_e hn
  obtain ⟨n3, hn⟩ := and_e hn
  obtain ⟨o3, hn⟩ := and_e hn
  obtain ⟨n5, hn⟩ := and_e hn
  obtain ⟨o5, hn⟩ := and_e hn
  obtain ⟨n4, o4⟩ := and_e hn
  obtain ⟨a0, v0⟩ := exa_v n0
  have S0 := Sta.start v0 (Or.inr ⟨hw _ (tw 7), hw _ (tw 8)⟩)
  have E0 := Exa.start v0 n0
  have F0 := fld_of v0 o0
  obtain ⟨a1, v1⟩ := exa_v n1
  have S1 := Sta.start v1 (Or.inr ⟨hw _ (tw 7), hw _ (tw 15)⟩)
  have E1 := Exa.start v1 n1
  have F1 := fld_of v1 o1
  obtain ⟨a2, v2⟩ := exa_v n2
  have S2 := Sta.start v2 (Or.inr ⟨hw _ (tw 7), hw _ (tw 17)⟩)
  have E2 := Exa.start v2 n2
  have F2 := fld_of v2 o2
  obtain ⟨a3, v3⟩ := exa_v n3
  have S3 := Sta.start v3 (Or.inr ⟨hw _ (tw 7), hw _ (tw 19)⟩)
  have E3 := Exa.start v3 n3
  have F3 := fld_of v3 o3
  obtain ⟨a4, v4⟩ := exa_v n4
  have S4 := Sta.start v4 (Or.inr ⟨hw _ (tw 7), hw _ (tw 25)⟩)
  have E4 := Exa.start v4 n4
  have F4 := fld_of v4 o4
  obtain ⟨a5, v5⟩ := exa_v n5
  have S5 := Sta.start v5 (Or.inr ⟨hw _ (tw 7), hw _ (tw 23)⟩)
  have E5 := Exa.start v5 n5
  have F5 := fld_of v5 o5
  obtain ⟨n, o, h1, h2, h3, _, L, rfl, ⟨rfl, -, N⟩, hq⟩ := law_con l s _ hw i4 a0 a1 a2 a3 a4 a5 S0 E0 S1 E1 S2 E2 S3 E3 S4 E4 S5 E5 (F0.ne F1 (by decide)) (F0.ne F2 (by decide)) (F2.ne F1 (by decide)) (F3.ne F1 (by decide)) (F3.ne F2 (by decide)) (F4.ne F1 (by decide)) (F4.ne F2 (by decide)) (F5.ne F1 (by decide)) (F5.ne F2 (by decide)) ⟨Nat.le_refl _, fun _ _ q => q⟩ tables_1 p e ha hc hk s m _ below hf ((Spec.applies_iff_loose hf).mp happ).1 ⟨rfl, State.Warmed39.refl s, rfl⟩ trivial
  refine ⟨n, _, h1, h2, h3, hpost _ _ _ _ _ _ ⟨Cond.after_iff.mpr rfl, Cond.after_iff.mpr (eq_i res_at (Term.int_eval (1)) rfl), trivial⟩ ⟨hq.1, hq.2.1, (hq.2.2.sift fun y hy => Or.inr (N y hy)).mono (by decide) (by decide)⟩⟩
theorem main_1_1 : Claimed_1_1 := comes_1 fun _ _ _ _ _ _ h hF => ⟨h.1, hF⟩
theorem main_1_2 : Claimed_1_2 := comes_1 fun _ _ _ _ _ _ h hF => ⟨h.2.1, hF⟩
end Jvm.Pilot.@@N@@
namespace Jvm.Pilot.@@N@@
open Jvm Jvm.ClassFile Sem Op Lib Jvm.Free Jvm.Stand Jvm.Pilot.@@N@@.Jvm.D
/-! MADE BY PROGRAM (witnessworld.py) out of the Statement's table words and the real class files: 14 classes; the members and pool entries that the words name. The judged class is class 1, her method 2. -/
namespace start1
open Jvm.ClassFile
def u (s : String) : CpInfo := .utf8 (stringToUtf16 s)
/-- a pool by its gaps: so many unusable entries, then the entry; so many at the end -/
def gap : Nat → List CpInfo → List CpInfo
  | 0, r => r
  | n + 1, r => .unusable :: gap n r
def poolList (es : List (Nat × CpInfo)) (last : Nat) : List CpInfo := es.foldr (fun e r => gap e.1 (e.2 :: r)) (gap last [])
def pool (es : List (Nat × CpInfo)) (last : Nat) : Array CpInfo := ⟨poolList es last⟩
def fileOf (pool : Array CpInfo) (this : Nat) (attrs : Array Attribute := #[]) (ms : Array MethodInfo := #[]) (fl : Nat := 33) (sup : Nat := 0) (ifs : Array Nat := #[]) (fds : Array FieldInfo := #[]) : ClassFile where
  minorVersion := 0
  majorVersion := 65
  constantPool := pool
  accessFlags := fl
  thisClass := this
  superClass := sup
  interfaces := ifs
  fields := fds
  methods := ms
  attributes := attrs
def plain (name : String) (sup : Option ClassId) : Class where
  name := name
  kind := .ordinary
  loader := none
  accessFlags := 33
  super := sup
  interfaces := #[]
  cf := none
  fields := #[]
  methods := #[]
  instanceTypes := #[]
  staticTypes := #[]
  resolved := #[]
  callSites := []
  init := .initialized
  statics := none
  mirror := none

def pool0 : Array CpInfo := pool [(5, u "<init>"), (0, u "()V"), (1, .class_ 10), (1, u "java/lang/Object")] 113

def k0m0 : Method := { name := "<init>", desc := "()V", sig := { parameters := [], returnType := none }, accessFlags := 1, code := none }
/-- java/lang/Object -/
def k0 : Class := { plain "java/lang/Object" none with
  accessFlags := 33
  interfaces := #[]
  cf := some (fileOf pool0 8 #[] #[{ accessFlags := 1, nameIndex := 5, descriptorIndex := 6, attributes := #[] }] 33 0 #[] #[])
  fields := #[]
  methods := #[k0m0]
  instanceTypes := #[]
  staticTypes := #[]
  resolved := Array.replicate 124 none
  statics := none }

def pool1 : Array CpInfo := pool [(2, .class_ 4), (1, u "java/lang/Object"), (0, u "<init>"), (0, u "()V"), (0, .fieldref 8 9), (0, .class_ 10), (0, .nameAndType 11 12), (0, u "com/example/goneish/goneish/ReferencePolicy"), (0, u "CASCADE"), (0, u "Lcom/example/goneish/goneish/ReferencePolicy;"), (0, .fieldref 8 14), (0, .nameAndType 15 12), (0, u "SET_NULL"), (0, .fieldref 8 17), (0, .nameAndType 18 12), (0, u "SET_DEFAULT"), (0, .fieldref 8 20), (0, .nameAndType 21 12), (0, u "DENY"), (0, .fieldref 8 23), (0, .nameAndType 24 12), (0, u "DELETE_PHYSICALLY"), (0, .fieldref 8 26), (0, .nameAndType 27 12), (0, u "KEEP"), (0, .integer 2147483647), (0, .methodref 30 31), (0, .class_ 32), (0, .nameAndType 33 34), (0, u "com/example/goneish/goneish/ReferencePolicySetsReferencePinLaw"), (0, u "pick"), (0, u "(I)Lcom/example/goneish/goneish/ReferencePolicy;"), (0, .methodref 8 36), (0, .nameAndType 37 38), (0, u "setsReference"), (0, u "()Z"), (3, u "law"), (0, u "(I)Z")] 4

def k1m0 : Method := { name := "<init>", desc := "()V", sig := { parameters := [], returnType := none }, accessFlags := 1, code := none }
def k1c1 : Code := { maxStack := 2, maxLocals := 1, code := method_2_code, exceptionTable := #[], attributes := #[] }
def k1m1 : Method := { name := "pick", desc := "(I)Lcom/example/goneish/goneish/ReferencePolicy;", sig := { parameters := [.int], returnType := some (.object "com/example/goneish/goneish/ReferencePolicy") }, accessFlags := 10, code := some k1c1 }
def k1c2 : Code := { maxStack := 4, maxLocals := 4, code := code, exceptionTable := #[], attributes := #[] }
def k1m2 : Method := { name := "law", desc := "(I)Z", sig := { parameters := [.int], returnType := some .boolean }, accessFlags := 9, code := some k1c2 }
/-- com/example/goneish/goneish/ReferencePolicySetsReferencePinLaw -/
def k1 : Class := { plain "com/example/goneish/goneish/ReferencePolicySetsReferencePinLaw" (some 0) with
  accessFlags := 49
  interfaces := #[]
  cf := some (fileOf pool1 30 #[] #[{ accessFlags := 1, nameIndex := 5, descriptorIndex := 6, attributes := #[] }, { accessFlags := 10, nameIndex := 33, descriptorIndex := 34, attributes := #[] }, { accessFlags := 9, nameIndex := 42, descriptorIndex := 43, attributes := #[] }] 49 2 #[] #[])
  fields := #[]
  methods := #[k1m0, k1m1, k1m2]
  instanceTypes := #[]
  staticTypes := #[]
  resolved := Array.replicate 48 none
  statics := none }

def pool2 : Array CpInfo := pool [(1, .class_ 2), (0, u "java/lang/constant/Constable"), (0, .class_ 4), (0, u "java/lang/Object")] 6

/-- java/lang/constant/Constable -/
def k2 : Class := { plain "java/lang/constant/Constable" (some 0) with
  accessFlags := 1537
  interfaces := #[]
  cf := some (fileOf pool2 1 #[] #[] 1537 3 #[] #[])
  fields := #[]
  methods := #[]
  instanceTypes := #[]
  staticTypes := #[]
  resolved := Array.replicate 11 none
  statics := none }

def pool3 : Array CpInfo := pool [(1, .class_ 2), (0, u "java/lang/Comparable"), (0, .class_ 4), (0, u "java/lang/Object")] 7

/-- java/lang/Comparable -/
def k3 : Class := { plain "java/lang/Comparable" (some 0) with
  accessFlags := 1537
  interfaces := #[]
  cf := some (fileOf pool3 1 #[] #[] 1537 3 #[] #[])
  fields := #[]
  methods := #[]
  instanceTypes := #[]
  staticTypes := #[]
  resolved := Array.replicate 12 none
  statics := none }

def pool4 : Array CpInfo := pool [(1, .class_ 2), (0, u "java/io/Serializable"), (0, .class_ 4), (0, u "java/lang/Object")] 2

/-- java/io/Serializable -/
def k4 : Class := { plain "java/io/Serializable" (some 0) with
  accessFlags := 1537
  interfaces := #[]
  cf := some (fileOf pool4 1 #[] #[] 1537 3 #[] #[])
  fields := #[]
  methods := #[]
  instanceTypes := #[]
  staticTypes := #[]
  resolved := Array.replicate 7 none
  statics := none }

def pool5 : Array CpInfo := pool [(2, .class_ 4), (1, u "java/lang/Enum"), (0, u "name"), (0, u "Ljava/lang/String;"), (2, u "ordinal"), (0, u "I"), (1, .class_ 14), (1, u "java/lang/Object"), (4, u "hash"), (86, .class_ 108), (1, u "java/lang/Enum$EnumDesc"), (2, .class_ 112), (0, u "java/lang/constant/Constable"), (0, .class_ 114), (0, u "java/lang/Comparable"), (0, .class_ 116), (0, u "java/io/Serializable")] 87

/-- java/lang/Enum -/
def k5 : Class := { plain "java/lang/Enum" (some 0) with
  accessFlags := 1057
  interfaces := #[2, 3, 4]
  cf := some (fileOf pool5 2 #[.nestMembers #[106]] #[] 1057 12 #[111, 113, 115] #[{ accessFlags := 18, nameIndex := 5, descriptorIndex := 6, attributes := #[] }, { accessFlags := 18, nameIndex := 9, descriptorIndex := 10, attributes := #[] }, { accessFlags := 2, nameIndex := 19, descriptorIndex := 10, attributes := #[] }])
  fields := #[{ name := "name", type := (.object "java/lang/String"), accessFlags := 18, slot := 0, constantValue := 0 }, { name := "ordinal", type := .int, accessFlags := 18, slot := 1, constantValue := 0 }, { name := "hash", type := .int, accessFlags := 2, slot := 2, constantValue := 0 }]
  methods := #[]
  instanceTypes := #[(.object "java/lang/String"), .int, .int]
  staticTypes := #[]
  resolved := Array.replicate 204 none
  statics := none }

def pool6 : Array CpInfo := pool [(1, .class_ 2), (0, u "com/example/goneish/goneish/ReferencePolicy"), (2, u "CASCADE"), (0, u "Lcom/example/goneish/goneish/ReferencePolicy;"), (0, .fieldref 1 8), (0, .nameAndType 9 6), (0, u "SET_NULL"), (0, .fieldref 1 11), (0, .nameAndType 12 6), (0, u "SET_DEFAULT"), (2, u "DENY"), (2, u "DELETE_PHYSICALLY"), (2, u "KEEP"), (2, u "$VALUES"), (0, u "[Lcom/example/goneish/goneish/ReferencePolicy;"), (6, .class_ 34), (1, u "java/lang/Enum"), (24, u "setsReference"), (0, u "()Z")] 5

def k6c0 : Code := { maxStack := 2, maxLocals := 1, code := prog_16_method_4_code, exceptionTable := #[], attributes := #[] }
def k6m0 : Method := { name := "setsReference", desc := "()Z", sig := { parameters := [], returnType := some .boolean }, accessFlags := 0, code := some k6c0 }
/-- com/example/goneish/goneish/ReferencePolicy -/
def k6 : Class := { plain "com/example/goneish/goneish/ReferencePolicy" (some 5) with
  accessFlags := 16433
  interfaces := #[]
  cf := some (fileOf pool6 1 #[] #[{ accessFlags := 0, nameIndex := 59, descriptorIndex := 60, attributes := #[] }] 16433 32 #[] #[{ accessFlags := 16409, nameIndex := 5, descriptorIndex := 6, attributes := #[] }, { accessFlags := 16409, nameIndex := 9, descriptorIndex := 6, attributes := #[] }, { accessFlags := 16409, nameIndex := 12, descriptorIndex := 6, attributes := #[] }, { accessFlags := 16409, nameIndex := 15, descriptorIndex := 6, attributes := #[] }, { accessFlags := 16409, nameIndex := 18, descriptorIndex := 6, attributes := #[] }, { accessFlags := 16409, nameIndex := 21, descriptorIndex := 6, attributes := #[] }, { accessFlags := 4122, nameIndex := 24, descriptorIndex := 25, attributes := #[] }])
  fields := #[{ name := "CASCADE", type := (.object "com/example/goneish/goneish/ReferencePolicy"), accessFlags := 16409, slot := 0, constantValue := 0 }, { name := "SET_NULL", type := (.object "com/example/goneish/goneish/ReferencePolicy"), accessFlags := 16409, slot := 1, constantValue := 0 }, { name := "SET_DEFAULT", type := (.object "com/example/goneish/goneish/ReferencePolicy"), accessFlags := 16409, slot := 2, constantValue := 0 }, { name := "DENY", type := (.object "com/example/goneish/goneish/ReferencePolicy"), accessFlags := 16409, slot := 3, constantValue := 0 }, { name := "DELETE_PHYSICALLY", type := (.object "com/example/goneish/goneish/ReferencePolicy"), accessFlags := 16409, slot := 4, constantValue := 0 }, { name := "KEEP", type := (.object "com/example/goneish/goneish/ReferencePolicy"), accessFlags := 16409, slot := 5, constantValue := 0 }, { name := "$VALUES", type := (.array (.object "com/example/goneish/goneish/ReferencePolicy")), accessFlags := 4122, slot := 6, constantValue := 0 }]
  methods := #[k6m0]
  instanceTypes := #[(.object "java/lang/String"), .int, .int]
  staticTypes := #[(.object "com/example/goneish/goneish/ReferencePolicy"), (.object "com/example/goneish/goneish/ReferencePolicy"), (.object "com/example/goneish/goneish/ReferencePolicy"), (.object "com/example/goneish/goneish/ReferencePolicy"), (.object "com/example/goneish/goneish/ReferencePolicy"), (.object "com/example/goneish/goneish/ReferencePolicy"), (.array (.object "com/example/goneish/goneish/ReferencePolicy"))]
  resolved := Array.replicate 66 none
  statics := some 0 }

def pool7 : Array CpInfo := pool [(1, u "java/lang/Cloneable"), (0, .class_ 1), (0, u "java/lang/Object"), (0, .class_ 3)] 3

/-- java/lang/Cloneable -/
def k7 : Class := { plain "java/lang/Cloneable" (some 0) with
  accessFlags := 1537
  interfaces := #[]
  cf := some (fileOf pool7 2 #[] #[] 1537 4 #[] #[])
  fields := #[]
  methods := #[]
  instanceTypes := #[]
  staticTypes := #[]
  resolved := Array.replicate 8 none
  statics := none }

/-- the primitive boolean -/
def k8 : Class := { plain "boolean" none with kind := .primitive 'Z', accessFlags := 0x411 }
/-- [Z -/
def k9 : Class := { plain "[Z" (some 0) with kind := .array 8 .boolean, interfaces := #[7, 4], accessFlags := 1041 }

/-- the primitive byte -/
def k10 : Class := { plain "byte" none with kind := .primitive 'B', accessFlags := 0x411 }
/-- [B -/
def k11 : Class := { plain "[B" (some 0) with kind := .array 10 .byte, interfaces := #[7, 4], accessFlags := 1041 }

/-- the primitive int -/
def k12 : Class := { plain "int" none with kind := .primitive 'I', accessFlags := 0x411 }
/-- [I -/
def k13 : Class := { plain "[I" (some 0) with kind := .array 12 .int, interfaces := #[7, 4], accessFlags := 1041 }

def heap : Heap := #[{ cls := 6, slots := #[.ref 1, .ref 2, .ref 3, .ref 4, .ref 5, .ref 6, .null], vm := .statics 6 },
  { cls := 6, slots := #[.null, .int 0, .int 0], vm := .none },
  { cls := 6, slots := #[.null, .int 1, .int 0], vm := .none },
  { cls := 6, slots := #[.null, .int 2, .int 0], vm := .none },
  { cls := 6, slots := #[.null, .int 3, .int 0], vm := .none },
  { cls := 6, slots := #[.null, .int 4, .int 0], vm := .none },
  { cls := 6, slots := #[.null, .int 5, .int 0], vm := .none }]
def classes : Array Class := #[k0, k1, k2, k3, k4, k5, k6, k7, k8, k9, k10, k11, k12, k13]
def interned : List (Array UInt16 × Addr) := []
def slotsUsed : Nat := 25
def theMethod : MethodId := ⟨1, 2⟩
def args0 : Array Value := #[.int 5]
def aboutOver (below : List Frame) : State where
  vm := { classes := classes, interned := interned.toArray }
  heap := heap
  slotsUsed := slotsUsed
  threads := #[{ frames := .invoking theMethod args0 :: below }]
def below0 : List Frame := [.native { method := ⟨0, 0⟩, args := #[] }]
def about1 : State := aboutOver below0
def p0 : Program := .bare "" "" ""
def e0 : Env := launch0.env 0 0 0
theorem w_frames : about1.frames = Frame.invoking theMethod args0 :: below0 := rfl
set_option maxRecDepth 65536 in
theorem w_args : argsFit about1.vm theMethod args0 = true := by decide +kernel
set_option maxRecDepth 65536 in
theorem w_heap : heapFits about1 = true := by decide +kernel
set_option maxRecDepth 65536 in
theorem w_runnable : about1.curStatus? = some .runnable := by decide +kernel
set_option maxRecDepth 65536 in
theorem w_alone : about1.alone = true := by decide +kernel
set_option maxRecDepth 65536 in
theorem w_named : about1.methodNamed? x = some theMethod := by decide +kernel
set_option maxRecDepth 65536 in
theorem w_hears : about1.hears theMethod below0 = true := by decide +kernel
set_option maxRecDepth 65536 in
theorem w_ripe : about1.ripe theMethod args0 below0 = true := by decide +kernel
theorem w_running : about1.status = .running := rfl
set_option maxRecDepth 65536 in
theorem w_room : about1.hasRoom e0.platform room_1 = true :=
  launch0.hasRoom_least _ room_1 (by decide +kernel) (by decide +kernel) (by decide +kernel) (by decide +kernel) (by decide +kernel) (by decide +kernel)
theorem allAtoms_all (ts : List Jvm.Cond) (a : Array Jvm.Value) (st : Jvm.State) : (allAtoms ts).before a st = ts.all (fun c => c.before a st) := by
  induction ts with
  | nil => rfl
  | cons c t ih =>
    show (Jvm.Cond.and c (allAtoms t)).before a st = _
    rw [Jvm.Cond.before_and, ih, List.all_cons]
def words1 : List Jvm.Cond := Jvm.Cond.code x code maxLocals ret :: tables_1
/-- a 'code' word, met by the world's own term for the bytes: nothing is compared byte by byte -/
theorem code_word {y : MethodName} {bytes : ByteArray} {mx : Nat} {rt : Option FieldType} {a : Array Value} {s : State} {m : MethodId} {meth : Method} {c : Code} (h1 : s.methodNamed? y = some m) (h2 : s.vm.method? m = some meth) (h3 : meth.code = some c) (h4 : c.code = bytes)
    (h5 : (c.maxLocals == mx && c.exceptionTable.isEmpty && decide (c.maxStack ≤ mostOperands) && decide (meth.sig.returnType = rt) && !meth.locks && decide (parseMethodDescriptor y.desc = some meth.sig)) = true) : (Jvm.Cond.code y bytes mx rt).before a s = true := by
  simp only [Bool.and_eq_true, beq_iff_eq, Bool.not_eq_true', decide_eq_true_eq] at h5
  obtain ⟨⟨⟨⟨⟨g1, g2⟩, g3⟩, g4⟩, g5⟩, g6⟩ := h5
  simp [Cond.before, Cond.holds, Cond.value, h1, h2, h3, h4, g1, g2, g3, g4, g5, g6]
def isCode : Jvm.Cond → Bool
  | .code _ _ _ _ => true
  | _ => false
theorem all_split {L : List Jvm.Cond} {P : Jvm.Cond → Bool} (h1 : L.all (fun c => isCode c || P c) = true) (h2 : ∀ c ∈ L.filter isCode, P c = true) : L.all P = true := by
  refine List.all_eq_true.mpr fun c hc => ?_
  have h := List.all_eq_true.mp h1 c hc
  rcases Bool.eq_false_or_eq_true (isCode c) with hi | hi
  · exact h2 c (List.mem_filter.mpr ⟨hc, hi⟩)
  · simpa [hi] using h
set_option maxRecDepth 65536 in
theorem w_c0 : (Jvm.Cond.code x code maxLocals ret).before args0 about1 = true := code_word (m := ⟨1, 2⟩) (meth := k1m2) (c := k1c2) (by decide +kernel) rfl rfl rfl (by decide +kernel)
set_option maxRecDepth 65536 in
theorem w_c1 : (Jvm.Cond.code ({ cls := "com/example/goneish/goneish/ReferencePolicySetsReferencePinLaw", name := "pick", desc := "(I)Lcom/example/goneish/goneish/ReferencePolicy;" } : Jvm.MethodName) method_2_code (1 : Nat) (Option.some (Jvm.ClassFile.FieldType.object "com/example/goneish/goneish/ReferencePolicy"))).before args0 about1 = true := code_word (m := ⟨1, 1⟩) (meth := k1m1) (c := k1c1) (by decide +kernel) rfl rfl rfl (by decide +kernel)
set_option maxRecDepth 65536 in
theorem w_c2 : (Jvm.Cond.code ({ cls := "com/example/goneish/goneish/ReferencePolicy", name := "setsReference", desc := "()Z" } : Jvm.MethodName) prog_16_method_4_code (1 : Nat) (Option.some Jvm.ClassFile.FieldType.boolean)).before args0 about1 = true := code_word (m := ⟨6, 0⟩) (meth := k6m0) (c := k6c0) (by decide +kernel) rfl rfl rfl (by decide +kernel)
def codes1 : List Jvm.Cond := [Jvm.Cond.code x code maxLocals ret, Jvm.Cond.code ({ cls := "com/example/goneish/goneish/ReferencePolicySetsReferencePinLaw", name := "pick", desc := "(I)Lcom/example/goneish/goneish/ReferencePolicy;" } : Jvm.MethodName) method_2_code (1 : Nat) (Option.some (Jvm.ClassFile.FieldType.object "com/example/goneish/goneish/ReferencePolicy")), Jvm.Cond.code ({ cls := "com/example/goneish/goneish/ReferencePolicy", name := "setsReference", desc := "()Z" } : Jvm.MethodName) prog_16_method_4_code (1 : Nat) (Option.some Jvm.ClassFile.FieldType.boolean)]
set_option maxRecDepth 65536 in
theorem codes_eq : words1.filter isCode = codes1 := rfl
theorem w_codes : ∀ c ∈ words1.filter isCode, c.before args0 about1 = true := by
  rw [codes_eq]
  intro c hc
  simp only [codes1, List.mem_cons, List.not_mem_nil, or_false] at hc
  rcases hc with rfl | rfl | rfl
  · exact w_c0
  · exact w_c1
  · exact w_c2
set_option maxRecDepth 65536 in
theorem w_t1 : (words1.take 24).all (fun c => isCode c || c.before args0 about1) = true := by decide +kernel
set_option maxRecDepth 65536 in
theorem w_t2 : (words1.drop 24).all (fun c => isCode c || c.before args0 about1) = true := by decide +kernel
theorem w_tables : (allAtoms (Jvm.Cond.code x code maxLocals ret :: tables_1)).before args0 about1 = true := by
  rw [allAtoms_all]
  show words1.all (fun c => c.before args0 about1) = true
  refine all_split ?_ w_codes
  rw [← List.take_append_drop 24 words1, List.all_append, w_t1, w_t2]
  rfl
set_option maxRecDepth 65536 in
theorem w_case : (Jvm.Cond.and given_1 narrow_1).before args0 about1 = true := by decide +kernel
theorem w_applies : (headSpec (Jvm.Cond.code x code maxLocals ret :: tables_1) room_1).applies x e0.platform about1 = true :=
  (Spec.applies_iff w_frames).mpr ⟨w_running, w_runnable, w_alone, w_named, w_hears, w_ripe, w_room, w_tables⟩
theorem atStart : AtStart classFile x code maxLocals ret World_1 tables_1 room_1 Calls_1 rest_1 Pre_1 launch0 p0 e0 about1 theMethod args0 below0 :=
  ⟨lists_1, trivial, launch0.admits_env _ _ _, launch0.least_env, fairChoices_fair.cas, fairChoices_fair.clock, w_frames, w_args, w_heap, w_applies, trivial, trivial, w_case⟩
end start1
theorem witness_1 : WitnessClaimed_1 := ⟨start1.p0, start1.e0, start1.about1, start1.theMethod, start1.args0, start1.below0, start1.atStart⟩
end Jvm.Pilot.@@N@@
