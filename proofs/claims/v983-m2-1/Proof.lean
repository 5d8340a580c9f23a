import JvmDerived
import JvmDerived.Pilot.@@N@@Statement
import JvmDerived.Pilot.@@N@@Code
set_option linter.unusedVariables false
set_option linter.unusedSimpArgs false
namespace Jvm.Own
open Sem ClassFile Op Lib Jvm.Stand Jvm.Free Jvm.LawKit Jvm.RoadKit
/-! THE OWN LAYER: a walk as a predicate on (heap, cells spent, slots spent, pc, locals, stack); each step is one rule 'what follows holds there -> what is asked holds here'. -/
abbrev Wk := Heap → Nat → Nat → Nat → Array Slot → List Value → Prop
def Ends (Z s : State) (R : Room) (Q : Option Value → Heap → Prop) (o : Outcome) (u : State) : Prop :=
  ∃ v L, o = .returned v ∧ (Q v u.heap ∧ Ext Z.heap u.heap ∧ Fr Z.heap.size L) ∧ FrameEnd s o u L R.cells R.slots
def Run (p : Program) (l : Launch) (e : Env) (R : Room) (s : State) (m : MethodId) (args : Array Value) (below : List Frame) (meth : Method) (c : Code) (Z : State) (Q : Option Value → Heap → Prop) : Wk := fun h k n pc Ls st =>
  Ext Z.heap h → ∀ T locs, Stand p l e R s m args below meth c T locs k n → T.heap = h → Fr Z.heap.size locs →
    ∃ u o, Steps p.tables e below (T.setTop (mkF m pc Ls st)) u ∧ u.status = .running ∧ Ended u below o ∧ Ends Z s R Q o u
def Ok (p : Program) (s : State) (m : MethodId) (meth : Method) (c : Code) (Z : State) (a0 : Array Value) (tb : List Jvm.Cond) (own : String) (code : ByteArray) (ml : Nat) (rt : Option FieldType) (nm : String) : Prop :=
  p.tables.exec = Jvm.exec ∧ c.code = code ∧ c.maxLocals = ml ∧ s.vm.findClass own = some m.cls ∧ meth.sig.returnType = rt ∧ meth.locks = false ∧ Z.Warmed39 s.vm ∧ meth.name = nm ∧ (∀ d ∈ tb, d.before a0 Z = true)
def Walk (W : Wk) (l : Launch) (Z : State) (a0 : Array Value) (tb : List Jvm.Cond) (own : String) (code : ByteArray) (ml : Nat) (rt : Option FieldType) (nm : String) (R : Room) (Q : Option Value → Heap → Prop) : Prop :=
  ∃ p e s m args below meth c, W = Run p l e R s m args below meth c Z Q ∧ Ok p s m meth c Z a0 tb own code ml rt nm
/-- what a method does, called on these arguments over this heap -/
def Con (l : Launch) (Z : State) (y : MethodName) (code : ByteArray) (ml : Nat) (rt : Option FieldType) (rm : Room) (as : Array Value) (h : Heap) (Q : Option Value → Heap → Prop) : Prop :=
  Ext Z.heap h → ∀ ws, MetFree l y (head1 (Jvm.Cond.code y code ml rt :: ws) rm) (fun a U => a = as ∧ Z.Warmed39 U.vm ∧ U.heap = h) (fun _ _ _ _ _ => True) (fun _ U o U' => Ends Z U rm Q o U')
/-- it returns v and the heap stands as it was -/
def Same (v : Option Value) (h : Heap) : Option Value → Heap → Prop := fun v' h' => v' = v ∧ h' = h
theorem same_intro {v : Option Value} {h : Heap} {P : Option Value → Heap → Prop} (K : P v h) : ∀ v' h', Same v h v' h' → P v' h' := by
  rintro _ _ ⟨rfl, rfl⟩; exact K
theorem Con.of {l : Launch} {Z : State} {a0 : Array Value} {tb : List Jvm.Cond} {y : MethodName} {code : ByteArray} {ml : Nat} {rt : Option FieldType} {rm : Room} {as : Array Value} {h : Heap} {Q : Option Value → Heap → Prop} {Ls : Array Slot}
    (hw : ∀ d ∈ tb, d.before a0 Z = true) (hpn : plainFor y = true) (hef : ∀ m, entryFrame m as ml = mkF m 0 Ls []) (H : ∀ W : Wk, Walk W l Z a0 tb y.cls code ml rt y.name rm Q → W h 0 0 0 Ls []) : Con l Z y code ml rt rm as h Q := by
  intro hE ws
  refine MetFree.of_bodySF hpn hisR ?_
  intro p e s m args below meth c s₁ Bd hml0 hP hK
  obtain ⟨rfl, hZ, hh⟩ := hP
  have X0 : Stand p l e rm s m args below meth c s₁ [] 0 0 := Stand.of_body Bd
  have e0 : s₁.heap = h := by rw [← hh, Bd.state]; rfl
  obtain ⟨u, o, h1, h2, h3, h4⟩ := H _ ⟨p, e, s, m, args, below, meth, c, rfl, Bd.exec, Bd.bytes, hml0, findClass_of_methodNamed Bd.named, Bd.returns, BodyLoose.notSynchronized Bd, hZ, (name_of_methodNamed Bd.named Bd.method).1, hw⟩ hE s₁ [] X0 e0 (Fr.nil _)
  exact ⟨u, o, castTop (hef m) h1, h2, h3, h4⟩
section Rules
variable {W : Wk} {l : Launch} {Z : State} {a0 : Array Value} {tb : List Jvm.Cond} {own : String} {code : ByteArray} {ml : Nat} {rt : Option FieldType} {nm : String} {R : Room} {Q : Option Value → Heap → Prop} {h : Heap} {k n pc : Nat} {Ls : Array Slot} {st : List Value}
theorem Walk.word (C : Walk W l Z a0 tb own code ml rt nm R Q) {d : Jvm.Cond} (q : d ∈ tb) : d.before a0 Z = true := by
  obtain ⟨p, e, s, m, args, below, meth, c, rfl, ok⟩ := C
  exact ok.2.2.2.2.2.2.2.2 d q
theorem Walk.more (C : Walk W l Z a0 tb own code ml rt nm R Q) {k' n' : Nat} (hk : k ≤ k') (hn : n ≤ n') (K : W h k' n' pc Ls st) : W h k n pc Ls st := by
  obtain ⟨p, e, s, m, args, below, meth, c, rfl, ok⟩ := C
  exact fun hE T locs X eT N => K hE T locs (X.more hk hn) eT N
theorem Walk.kept (C : Walk W l Z a0 tb own code ml rt nm R Q) (K : Ext Z.heap h → W h k n pc Ls st) : W h k n pc Ls st := by
  obtain ⟨p, e, s, m, args, below, meth, c, rfl, ok⟩ := C
  exact fun hE => K hE hE
/-- a step that moves neither heap nor tables -/
theorem Walk.plain (C : Walk W l Z a0 tb own code ml rt nm R Q) {pc' : Nat} {Ls' : Array Slot} {st' : List Value}
    (S : ∀ {tb' : Tables} [Ours tb'] {e : Env} {below : List Frame} {T target : State} {m : MethodId} {c : Code}, At T m c below → tb'.exec = Jvm.exec → c.code = code → Steps tb' e below (T.setTop (mkF m pc' Ls' st')) target → Steps tb' e below (T.setTop (mkF m pc Ls st)) target)
    (K : W h k n pc' Ls' st') : W h k n pc Ls st := by
  obtain ⟨p, e, s, m, args, below, meth, c, rfl, ok⟩ := C
  intro hE T locs X eT N
  obtain ⟨u, o, h1, h2⟩ := K hE T locs X eT N
  exact ⟨u, o, S X.here ok.1 ok.2.1 h1, h2⟩
theorem Walk.iloadN (C : Walk W l Z a0 tb own code ml rt nm R Q) (pc' : Nat) {i : Fin 4} {v : Int32} (hd : decode code pc = .ok (.iload_n i, 1)) (hp : pc' = pc + 1) (hl : Ls[i.val]? = some (.val (.int v))) (K : W h k n pc' Ls (.int v :: st)) : W h k n pc Ls st := by
  subst hp; exact C.plain (fun hA hx hb' hr => XS.iloadN hA hx rfl (hb hb' hd) hl hr) K
theorem Walk.iload (C : Walk W l Z a0 tb own code ml rt nm R Q) (pc' : Nat) {i : Nat} {v : Int32} (hd : decode code pc = .ok (.iload i, 2)) (hp : pc' = pc + 2) (hl : Ls[i]? = some (.val (.int v))) (K : W h k n pc' Ls (.int v :: st)) : W h k n pc Ls st := by
  subst hp; exact C.plain (fun hA hx hb' hr => XS.iload hA hx rfl (hb hb' hd) hl hr) K
theorem Walk.lloadN (C : Walk W l Z a0 tb own code ml rt nm R Q) (pc' : Nat) {i : Fin 4} {v : Int64} (hd : decode code pc = .ok (.lload_n i, 1)) (hp : pc' = pc + 1) (hl : Ls[i.val]? = some (.val (.long v))) (K : W h k n pc' Ls (.long v :: st)) : W h k n pc Ls st := by
  subst hp; exact C.plain (fun hA hx hb' hr => XT.lloadN hA hx rfl (hb hb' hd) hl hr) K
theorem Walk.lload (C : Walk W l Z a0 tb own code ml rt nm R Q) (pc' : Nat) {i : Nat} {v : Int64} (hd : decode code pc = .ok (.lload i, 2)) (hp : pc' = pc + 2) (hl : Ls[i]? = some (.val (.long v))) (K : W h k n pc' Ls (.long v :: st)) : W h k n pc Ls st := by
  subst hp; exact C.plain (fun hA hx hb' hr => XT.lload hA hx rfl (hb hb' hd) hl hr) K
theorem Walk.aloadN (C : Walk W l Z a0 tb own code ml rt nm R Q) (pc' : Nat) {i : Fin 4} {v : Value} (hd : decode code pc = .ok (.aload_n i, 1)) (hp : pc' = pc + 1) (hl : Ls[i.val]? = some (.val v)) (hv : v.isRef = true) (K : W h k n pc' Ls (v :: st)) : W h k n pc Ls st := by
  subst hp; exact C.plain (fun hA hx hb' hr => XS.aloadN hA hx rfl (hb hb' hd) hl hv hr) K
theorem Walk.aload (C : Walk W l Z a0 tb own code ml rt nm R Q) (pc' : Nat) {i : Nat} {v : Value} (hd : decode code pc = .ok (.aload i, 2)) (hp : pc' = pc + 2) (hl : Ls[i]? = some (.val v)) (hv : v.isRef = true) (K : W h k n pc' Ls (v :: st)) : W h k n pc Ls st := by
  subst hp; exact C.plain (fun hA hx hb' hr => XS.aload hA hx rfl (hb hb' hd) hl hv hr) K
theorem Walk.istoreN (C : Walk W l Z a0 tb own code ml rt nm R Q) (pc' : Nat) (Ls' : Array Slot) {i : Fin 4} {x : Int32} (hd : decode code pc = .ok (.istore_n i, 1)) (hp : pc' = pc + 1) (hl : storeLocals Ls i.val (.int x) = some Ls') (K : W h k n pc' Ls' st) : W h k n pc Ls (.int x :: st) := by
  subst hp; exact C.plain (fun hA hx hb' hr => XS.istoreN hA hx rfl (hb hb' hd) rfl hl hr) K
theorem Walk.istore (C : Walk W l Z a0 tb own code ml rt nm R Q) (pc' : Nat) (Ls' : Array Slot) {i : Nat} {x : Int32} (hd : decode code pc = .ok (.istore i, 2)) (hp : pc' = pc + 2) (hl : storeLocals Ls i (.int x) = some Ls') (K : W h k n pc' Ls' st) : W h k n pc Ls (.int x :: st) := by
  subst hp; exact C.plain (fun hA hx hb' hr => XS.istore hA hx rfl (hb hb' hd) rfl hl hr) K
theorem Walk.lstoreN (C : Walk W l Z a0 tb own code ml rt nm R Q) (pc' : Nat) (Ls' : Array Slot) {i : Fin 4} {x : Int64} (hd : decode code pc = .ok (.lstore_n i, 1)) (hp : pc' = pc + 1) (hl : storeLocals Ls i.val (.long x) = some Ls') (K : W h k n pc' Ls' st) : W h k n pc Ls (.long x :: st) := by
  subst hp; exact C.plain (fun hA hx hb' hr => XT.lstoreN hA hx rfl (hb hb' hd) rfl hl hr) K
theorem Walk.lstore (C : Walk W l Z a0 tb own code ml rt nm R Q) (pc' : Nat) (Ls' : Array Slot) {i : Nat} {x : Int64} (hd : decode code pc = .ok (.lstore i, 2)) (hp : pc' = pc + 2) (hl : storeLocals Ls i (.long x) = some Ls') (K : W h k n pc' Ls' st) : W h k n pc Ls (.long x :: st) := by
  subst hp; exact C.plain (fun hA hx hb' hr => XT.lstore hA hx rfl (hb hb' hd) rfl hl hr) K
theorem Walk.astoreN (C : Walk W l Z a0 tb own code ml rt nm R Q) (pc' : Nat) (Ls' : Array Slot) {i : Fin 4} {x : Value} (hd : decode code pc = .ok (.astore_n i, 1)) (hp : pc' = pc + 1) (hv : x.isRef = true) (hl : storeLocals Ls i.val x = some Ls') (K : W h k n pc' Ls' st) : W h k n pc Ls (x :: st) := by
  subst hp; exact C.plain (fun hA hx hb' hr => XS.astoreN hA hx rfl (hb hb' hd) rfl hv hl hr) K
theorem Walk.astore (C : Walk W l Z a0 tb own code ml rt nm R Q) (pc' : Nat) (Ls' : Array Slot) {i : Nat} {x : Value} (hd : decode code pc = .ok (.astore i, 2)) (hp : pc' = pc + 2) (hv : x.isRef = true) (hl : storeLocals Ls i x = some Ls') (K : W h k n pc' Ls' st) : W h k n pc Ls (x :: st) := by
  subst hp; exact C.plain (fun hA hx hb' hr => XS.astore hA hx rfl (hb hb' hd) rfl hv hl hr) K
theorem Walk.iconst (C : Walk W l Z a0 tb own code ml rt nm R Q) (pc' : Nat) (v : Int32) {i : Int} (hd : decode code pc = .ok (.iconst i, 1)) (hp : pc' = pc + 1) (hv : Int32.ofInt i = v) (K : W h k n pc' Ls (.int v :: st)) : W h k n pc Ls st := by
  subst hp hv; exact C.plain (fun hA hx hb' hr => XS.iconst hA hx rfl (hb hb' hd) hr) K
theorem Walk.bipush (C : Walk W l Z a0 tb own code ml rt nm R Q) (pc' : Nat) (v : Int32) {i : Int} (hd : decode code pc = .ok (.bipush i, 2)) (hp : pc' = pc + 2) (hv : (Int8.ofInt i).toInt32 = v) (K : W h k n pc' Ls (.int v :: st)) : W h k n pc Ls st := by
  subst hp hv; exact C.plain (fun hA hx hb' hr => XS.bipush hA hx rfl (hb hb' hd) hr) K
theorem Walk.sipush (C : Walk W l Z a0 tb own code ml rt nm R Q) (pc' : Nat) (v : Int32) {i : Int} (hd : decode code pc = .ok (.sipush i, 3)) (hp : pc' = pc + 3) (hv : (Int16.ofInt i).toInt32 = v) (K : W h k n pc' Ls (.int v :: st)) : W h k n pc Ls st := by
  subst hp hv; exact C.plain (fun hA hx hb' hr => XS.sipush hA hx rfl (hb hb' hd) hr) K
theorem Walk.lconst (C : Walk W l Z a0 tb own code ml rt nm R Q) (pc' : Nat) (v : Int64) {i : Fin 2} (hd : decode code pc = .ok (.lconst i, 1)) (hp : pc' = pc + 1) (hv : Int64.ofNat i = v) (K : W h k n pc' Ls (.long v :: st)) : W h k n pc Ls st := by
  subst hp hv; exact C.plain (fun hA hx hb' hr => XT.lconst hA hx rfl (hb hb' hd) hr) K
theorem Walk.aconstNull (C : Walk W l Z a0 tb own code ml rt nm R Q) (pc' : Nat) (hd : decode code pc = .ok (.aconst_null, 1)) (hp : pc' = pc + 1) (K : W h k n pc' Ls (.null :: st)) : W h k n pc Ls st := by
  subst hp; exact C.plain (fun hA hx hb' hr => XS.aconstNull hA hx rfl (hb hb' hd) hr) K
theorem Walk.iadd (C : Walk W l Z a0 tb own code ml rt nm R Q) (pc' : Nat) {x y : Int32} (hd : decode code pc = .ok (.iadd, 1)) (hp : pc' = pc + 1) (K : W h k n pc' Ls (.int (x + y) :: st)) : W h k n pc Ls (.int y :: .int x :: st) := by
  subst hp; exact C.plain (fun hA hx hb' hr => XS.iadd hA hx rfl (hb hb' hd) rfl hr) K
theorem Walk.isub (C : Walk W l Z a0 tb own code ml rt nm R Q) (pc' : Nat) {x y : Int32} (hd : decode code pc = .ok (.isub, 1)) (hp : pc' = pc + 1) (K : W h k n pc' Ls (.int (x - y) :: st)) : W h k n pc Ls (.int y :: .int x :: st) := by
  subst hp; exact C.plain (fun hA hx hb' hr => XS.isub hA hx rfl (hb hb' hd) rfl hr) K
theorem Walk.iand (C : Walk W l Z a0 tb own code ml rt nm R Q) (pc' : Nat) {x y : Int32} (hd : decode code pc = .ok (.iand, 1)) (hp : pc' = pc + 1) (K : W h k n pc' Ls (.int (x &&& y) :: st)) : W h k n pc Ls (.int y :: .int x :: st) := by
  subst hp; exact C.plain (fun hA hx hb' hr => XS.iand hA hx rfl (hb hb' hd) rfl hr) K
theorem Walk.imul (C : Walk W l Z a0 tb own code ml rt nm R Q) (pc' : Nat) {x y : Int32} (hd : decode code pc = .ok (.imul, 1)) (hp : pc' = pc + 1) (K : W h k n pc' Ls (.int (x * y) :: st)) : W h k n pc Ls (.int y :: .int x :: st) := by
  subst hp; exact C.plain (fun hA hx hb' hr => XS.imul hA hx rfl (hb hb' hd) rfl hr) K
theorem Walk.ixor (C : Walk W l Z a0 tb own code ml rt nm R Q) (pc' : Nat) {x y : Int32} (hd : decode code pc = .ok (.ixor, 1)) (hp : pc' = pc + 1) (K : W h k n pc' Ls (.int (x ^^^ y) :: st)) : W h k n pc Ls (.int y :: .int x :: st) := by
  subst hp; exact C.plain (fun hA hx hb' hr => XT.ixor hA hx rfl (hb hb' hd) rfl hr) K
theorem Walk.ior (C : Walk W l Z a0 tb own code ml rt nm R Q) (pc' : Nat) {x y : Int32} (hd : decode code pc = .ok (.ior, 1)) (hp : pc' = pc + 1) (K : W h k n pc' Ls (.int (x ||| y) :: st)) : W h k n pc Ls (.int y :: .int x :: st) := by
  subst hp; exact C.plain (fun hA hx hb' hr => XT.ior hA hx rfl (hb hb' hd) rfl hr) K
theorem Walk.ishl (C : Walk W l Z a0 tb own code ml rt nm R Q) (pc' : Nat) {x y : Int32} (hd : decode code pc = .ok (.ishl, 1)) (hp : pc' = pc + 1) (K : W h k n pc' Ls (.int (x <<< (y &&& 31)) :: st)) : W h k n pc Ls (.int y :: .int x :: st) := by
  subst hp; exact C.plain (fun hA hx hb' hr => XT.ishl hA hx rfl (hb hb' hd) rfl hr) K
theorem Walk.ishr (C : Walk W l Z a0 tb own code ml rt nm R Q) (pc' : Nat) {x y : Int32} (hd : decode code pc = .ok (.ishr, 1)) (hp : pc' = pc + 1) (K : W h k n pc' Ls (.int (x >>> (y &&& 31)) :: st)) : W h k n pc Ls (.int y :: .int x :: st) := by
  subst hp; exact C.plain (fun hA hx hb' hr => XT.ishr hA hx rfl (hb hb' hd) rfl hr) K
theorem Walk.iushr (C : Walk W l Z a0 tb own code ml rt nm R Q) (pc' : Nat) {x y : Int32} (hd : decode code pc = .ok (.iushr, 1)) (hp : pc' = pc + 1) (K : W h k n pc' Ls (.int (XT.ushr x y) :: st)) : W h k n pc Ls (.int y :: .int x :: st) := by
  subst hp; exact C.plain (fun hA hx hb' hr => XT.iushr hA hx rfl (hb hb' hd) rfl hr) K
theorem Walk.ladd (C : Walk W l Z a0 tb own code ml rt nm R Q) (pc' : Nat) {x y : Int64} (hd : decode code pc = .ok (.ladd, 1)) (hp : pc' = pc + 1) (K : W h k n pc' Ls (.long (x + y) :: st)) : W h k n pc Ls (.long y :: .long x :: st) := by
  subst hp; exact C.plain (fun hA hx hb' hr => XT.ladd hA hx rfl (hb hb' hd) rfl hr) K
theorem Walk.lsub (C : Walk W l Z a0 tb own code ml rt nm R Q) (pc' : Nat) {x y : Int64} (hd : decode code pc = .ok (.lsub, 1)) (hp : pc' = pc + 1) (K : W h k n pc' Ls (.long (x - y) :: st)) : W h k n pc Ls (.long y :: .long x :: st) := by
  subst hp; exact C.plain (fun hA hx hb' hr => XT.lsub hA hx rfl (hb hb' hd) rfl hr) K
theorem Walk.lmul (C : Walk W l Z a0 tb own code ml rt nm R Q) (pc' : Nat) {x y : Int64} (hd : decode code pc = .ok (.lmul, 1)) (hp : pc' = pc + 1) (K : W h k n pc' Ls (.long (x * y) :: st)) : W h k n pc Ls (.long y :: .long x :: st) := by
  subst hp; exact C.plain (fun hA hx hb' hr => XT.lmul hA hx rfl (hb hb' hd) rfl hr) K
theorem Walk.land (C : Walk W l Z a0 tb own code ml rt nm R Q) (pc' : Nat) {x y : Int64} (hd : decode code pc = .ok (.land, 1)) (hp : pc' = pc + 1) (K : W h k n pc' Ls (.long (x &&& y) :: st)) : W h k n pc Ls (.long y :: .long x :: st) := by
  subst hp; exact C.plain (fun hA hx hb' hr => XT.land hA hx rfl (hb hb' hd) rfl hr) K
theorem Walk.lor (C : Walk W l Z a0 tb own code ml rt nm R Q) (pc' : Nat) {x y : Int64} (hd : decode code pc = .ok (.lor, 1)) (hp : pc' = pc + 1) (K : W h k n pc' Ls (.long (x ||| y) :: st)) : W h k n pc Ls (.long y :: .long x :: st) := by
  subst hp; exact C.plain (fun hA hx hb' hr => XT.lor hA hx rfl (hb hb' hd) rfl hr) K
theorem Walk.lxor (C : Walk W l Z a0 tb own code ml rt nm R Q) (pc' : Nat) {x y : Int64} (hd : decode code pc = .ok (.lxor, 1)) (hp : pc' = pc + 1) (K : W h k n pc' Ls (.long (x ^^^ y) :: st)) : W h k n pc Ls (.long y :: .long x :: st) := by
  subst hp; exact C.plain (fun hA hx hb' hr => XT.lxor hA hx rfl (hb hb' hd) rfl hr) K
theorem Walk.lcmp (C : Walk W l Z a0 tb own code ml rt nm R Q) (pc' : Nat) {x y : Int64} (hd : decode code pc = .ok (.lcmp, 1)) (hp : pc' = pc + 1) (K : W h k n pc' Ls (.int (XT.cmpL x y) :: st)) : W h k n pc Ls (.long y :: .long x :: st) := by
  subst hp; exact C.plain (fun hA hx hb' hr => XT.lcmp hA hx rfl (hb hb' hd) rfl hr) K
theorem Walk.idiv (C : Walk W l Z a0 tb own code ml rt nm R Q) (pc' : Nat) {x y : Int32} (hd : decode code pc = .ok (.idiv, 1)) (hp : pc' = pc + 1) (hy : y ≠ 0) (K : W h k n pc' Ls (.int (x / y) :: st)) : W h k n pc Ls (.int y :: .int x :: st) := by
  subst hp; exact C.plain (fun hA hx hb' hr => XS.idiv hA hx rfl (hb hb' hd) rfl hy hr) K
theorem Walk.irem (C : Walk W l Z a0 tb own code ml rt nm R Q) (pc' : Nat) {x y : Int32} (hd : decode code pc = .ok (.irem, 1)) (hp : pc' = pc + 1) (hy : y ≠ 0) (K : W h k n pc' Ls (.int (x % y) :: st)) : W h k n pc Ls (.int y :: .int x :: st) := by
  subst hp; rw [← irem_eq_mod] at K; exact C.plain (fun hA hx hb' hr => XS.irem hA hx rfl (hb hb' hd) rfl hy hr) K
theorem Walk.i2l (C : Walk W l Z a0 tb own code ml rt nm R Q) (pc' : Nat) {x : Int32} (hd : decode code pc = .ok (.i2l, 1)) (hp : pc' = pc + 1) (K : W h k n pc' Ls (.long x.toInt64 :: st)) : W h k n pc Ls (.int x :: st) := by
  subst hp; exact C.plain (fun hA hx hb' hr => XT.i2l hA hx rfl (hb hb' hd) rfl hr) K
theorem Walk.l2i (C : Walk W l Z a0 tb own code ml rt nm R Q) (pc' : Nat) {x : Int64} (hd : decode code pc = .ok (.l2i, 1)) (hp : pc' = pc + 1) (K : W h k n pc' Ls (.int x.toInt32 :: st)) : W h k n pc Ls (.long x :: st) := by
  subst hp; exact C.plain (fun hA hx hb' hr => XT.l2i hA hx rfl (hb hb' hd) rfl hr) K
theorem Walk.i2b (C : Walk W l Z a0 tb own code ml rt nm R Q) (pc' : Nat) {x : Int32} (hd : decode code pc = .ok (.i2b, 1)) (hp : pc' = pc + 1) (K : W h k n pc' Ls (.int x.toInt8.toInt32 :: st)) : W h k n pc Ls (.int x :: st) := by
  subst hp; exact C.plain (fun hA hx hb' hr => XT.i2b hA hx rfl (hb hb' hd) rfl hr) K
theorem Walk.i2c (C : Walk W l Z a0 tb own code ml rt nm R Q) (pc' : Nat) {x : Int32} (hd : decode code pc = .ok (.i2c, 1)) (hp : pc' = pc + 1) (K : W h k n pc' Ls (.int x.toUInt32.toUInt16.toUInt32.toInt32 :: st)) : W h k n pc Ls (.int x :: st) := by
  subst hp; exact C.plain (fun hA hx hb' hr => XT.i2c hA hx rfl (hb hb' hd) rfl hr) K
theorem Walk.ineg (C : Walk W l Z a0 tb own code ml rt nm R Q) (pc' : Nat) {x : Int32} (hd : decode code pc = .ok (.ineg, 1)) (hp : pc' = pc + 1) (K : W h k n pc' Ls (.int (-x) :: st)) : W h k n pc Ls (.int x :: st) := by
  subst hp; exact C.plain (fun hA hx hb' hr => XS.ineg hA hx rfl (hb hb' hd) rfl hr) K
theorem Walk.dup (C : Walk W l Z a0 tb own code ml rt nm R Q) (pc' : Nat) {x : Value} (hd : decode code pc = .ok (.dup, 1)) (hp : pc' = pc + 1) (hc : x.category = 1) (K : W h k n pc' Ls (x :: x :: st)) : W h k n pc Ls (x :: st) := by
  subst hp; exact C.plain (fun hA hx hb' hr => XS.dup hA hx rfl (hb hb' hd) rfl hc hr) K
theorem Walk.dupX1 (C : Walk W l Z a0 tb own code ml rt nm R Q) (pc' : Nat) {x y : Value} (hd : decode code pc = .ok (.dup_x1, 1)) (hp : pc' = pc + 1) (hc : x.category = 1) (hc' : y.category = 1) (K : W h k n pc' Ls (x :: y :: x :: st)) : W h k n pc Ls (x :: y :: st) := by
  subst hp; exact C.plain (fun hA hx hb' hr => XT.dupX1 hA hx rfl (hb hb' hd) rfl hc hc' hr) K
theorem Walk.dup2 (C : Walk W l Z a0 tb own code ml rt nm R Q) (pc' : Nat) {x y : Value} (hd : decode code pc = .ok (.dup2, 1)) (hp : pc' = pc + 1) (hc : x.category = 1) (hc' : y.category = 1) (K : W h k n pc' Ls (x :: y :: x :: y :: st)) : W h k n pc Ls (x :: y :: st) := by
  subst hp; exact C.plain (fun hA hx hb' hr => XT.dup2 hA hx rfl (hb hb' hd) rfl hc hc' hr) K
theorem Walk.pop (C : Walk W l Z a0 tb own code ml rt nm R Q) (pc' : Nat) {x : Value} (hd : decode code pc = .ok (.pop, 1)) (hp : pc' = pc + 1) (hc : x.category = 1) (K : W h k n pc' Ls st) : W h k n pc Ls (x :: st) := by
  subst hp; exact C.plain (fun hA hx hb' hr => XT.pop hA hx rfl (hb hb' hd) rfl hc hr) K
theorem Walk.iinc (C : Walk W l Z a0 tb own code ml rt nm R Q) (pc' : Nat) (Ls' : Array Slot) {i : Nat} {cst : Int} {x : Int32} (hd : decode code pc = .ok (.iinc i cst, 3)) (hp : pc' = pc + 3) (hl : Ls[i]? = some (.val (.int x))) (hl' : storeLocals Ls i (.int (x + Int32.ofInt cst)) = some Ls') (K : W h k n pc' Ls' st) : W h k n pc Ls st := by
  subst hp; exact C.plain (fun hA hx hb' hr => XS.iinc hA hx rfl (hb hb' hd) hl hl' hr) K
theorem Walk.goto (C : Walk W l Z a0 tb own code ml rt nm R Q) (pc' : Nat) {o : Int} (hd : decode code pc = .ok (.goto o, 3)) (hp : (pc : Int) + o = (pc' : Int)) (K : W h k n pc' Ls st) : W h k n pc Ls st :=
  C.plain (fun hA hx hb' hr => XS.goto hA hx rfl (pc0 := pc) (pc' := pc') rfl (hb hb' hd) (by omega) (by omega) hr) K
theorem Walk.ifT (C : Walk W l Z a0 tb own code ml rt nm R Q) (pc' : Nat) {cd : ClassFile.Cond} {x : Int32} {o : Int} (hd : decode code pc = .ok (.ifCond cd o, 3)) (hp : (pc : Int) + o = (pc' : Int)) (hc : ifCond.holds cd x = true) (K : W h k n pc' Ls st) : W h k n pc Ls (.int x :: st) :=
  C.plain (fun hA hx hb' hr => XS.ifYes hA hx rfl (pc0 := pc) (pc' := pc') rfl (hb hb' hd) rfl hc (by omega) (by omega) hr) K
theorem Walk.ifF (C : Walk W l Z a0 tb own code ml rt nm R Q) (pc' : Nat) {cd : ClassFile.Cond} {x : Int32} {o : Int} (hd : decode code pc = .ok (.ifCond cd o, 3)) (hp : pc' = pc + 3) (hc : ifCond.holds cd x = false) (K : W h k n pc' Ls st) : W h k n pc Ls (.int x :: st) := by
  subst hp; exact C.plain (fun hA hx hb' hr => XS.ifNo hA hx rfl (hb hb' hd) rfl hc hr) K
theorem Walk.icmpT (C : Walk W l Z a0 tb own code ml rt nm R Q) (pc' : Nat) {cd : ClassFile.Cond} {x y : Int32} {o : Int} (hd : decode code pc = .ok (.if_icmp cd o, 3)) (hp : (pc : Int) + o = (pc' : Int)) (hc : if_icmp.holds cd x y = true) (K : W h k n pc' Ls st) : W h k n pc Ls (.int y :: .int x :: st) :=
  C.plain (fun hA hx hb' hr => XS.icmpYes hA hx rfl (pc0 := pc) (pc' := pc') rfl (hb hb' hd) rfl hc (by omega) (by omega) hr) K
theorem Walk.icmpF (C : Walk W l Z a0 tb own code ml rt nm R Q) (pc' : Nat) {cd : ClassFile.Cond} {x y : Int32} {o : Int} (hd : decode code pc = .ok (.if_icmp cd o, 3)) (hp : pc' = pc + 3) (hc : if_icmp.holds cd x y = false) (K : W h k n pc' Ls st) : W h k n pc Ls (.int y :: .int x :: st) := by
  subst hp; exact C.plain (fun hA hx hb' hr => XS.icmpNo hA hx rfl (hb hb' hd) rfl hc hr) K
theorem Walk.acmpT (C : Walk W l Z a0 tb own code ml rt nm R Q) (pc' : Nat) {cd : ClassFile.ACond} {x y : Value} {o : Int} (hd : decode code pc = .ok (.if_acmp cd o, 3)) (hp : (pc : Int) + o = (pc' : Int)) (h1 : x.isRef = true) (h2 : y.isRef = true) (hc : XT.acmp cd x y = true) (K : W h k n pc' Ls st) : W h k n pc Ls (y :: x :: st) :=
  C.plain (fun hA hx hb' hr => XT.acmpYes hA hx rfl (pc0 := pc) (pc' := pc') rfl (hb hb' hd) rfl h1 h2 hc (by omega) (by omega) hr) K
theorem Walk.acmpF (C : Walk W l Z a0 tb own code ml rt nm R Q) (pc' : Nat) {cd : ClassFile.ACond} {x y : Value} {o : Int} (hd : decode code pc = .ok (.if_acmp cd o, 3)) (hp : pc' = pc + 3) (h1 : x.isRef = true) (h2 : y.isRef = true) (hc : XT.acmp cd x y = false) (K : W h k n pc' Ls st) : W h k n pc Ls (y :: x :: st) := by
  subst hp; exact C.plain (fun hA hx hb' hr => XT.acmpNo hA hx rfl (hb hb' hd) rfl h1 h2 hc hr) K
theorem Walk.ifnullT (C : Walk W l Z a0 tb own code ml rt nm R Q) (pc' : Nat) {o : Int} (hd : decode code pc = .ok (.ifnull o, 3)) (hp : (pc : Int) + o = (pc' : Int)) (K : W h k n pc' Ls st) : W h k n pc Ls (.null :: st) :=
  C.plain (fun hA hx hb' hr => XS.ifnullYes hA hx rfl (pc0 := pc) (pc' := pc') rfl (hb hb' hd) rfl (by omega) (by omega) hr) K
theorem Walk.ifnullF (C : Walk W l Z a0 tb own code ml rt nm R Q) (pc' : Nat) {b : Addr} {o : Int} (hd : decode code pc = .ok (.ifnull o, 3)) (hp : pc' = pc + 3) (K : W h k n pc' Ls st) : W h k n pc Ls (.ref b :: st) := by
  subst hp; exact C.plain (fun hA hx hb' hr => XS.ifnullNo hA hx rfl (hb hb' hd) rfl hr) K
theorem Walk.ifnonnullT (C : Walk W l Z a0 tb own code ml rt nm R Q) (pc' : Nat) {b : Addr} {o : Int} (hd : decode code pc = .ok (.ifnonnull o, 3)) (hp : (pc : Int) + o = (pc' : Int)) (K : W h k n pc' Ls st) : W h k n pc Ls (.ref b :: st) :=
  C.plain (fun hA hx hb' hr => XT.ifnonnullYes hA hx rfl (pc0 := pc) (pc' := pc') rfl (hb hb' hd) rfl (by omega) (by omega) hr) K
theorem Walk.ifnonnullF (C : Walk W l Z a0 tb own code ml rt nm R Q) (pc' : Nat) {o : Int} (hd : decode code pc = .ok (.ifnonnull o, 3)) (hp : pc' = pc + 3) (K : W h k n pc' Ls st) : W h k n pc Ls (.null :: st) := by
  subst hp; exact C.plain (fun hA hx hb' hr => XT.ifnonnullNo hA hx rfl (hb hb' hd) rfl hr) K
theorem Walk.lshl (C : Walk W l Z a0 tb own code ml rt nm R Q) (pc' : Nat) {x : Int64} {y : Int32} (hd : decode code pc = .ok (.lshl, 1)) (hp : pc' = pc + 1) (K : W h k n pc' Ls (.long (x <<< (y.toInt64 &&& 63)) :: st)) : W h k n pc Ls (.int y :: .long x :: st) := by
  subst hp; exact C.plain (fun hA hx hb' hr => XT.lshl hA hx rfl (hb hb' hd) rfl hr) K
theorem Walk.lshr (C : Walk W l Z a0 tb own code ml rt nm R Q) (pc' : Nat) {x : Int64} {y : Int32} (hd : decode code pc = .ok (.lshr, 1)) (hp : pc' = pc + 1) (K : W h k n pc' Ls (.long (x >>> (y.toInt64 &&& 63)) :: st)) : W h k n pc Ls (.int y :: .long x :: st) := by
  subst hp; exact C.plain (fun hA hx hb' hr => XT.lshr hA hx rfl (hb hb' hd) rfl hr) K
theorem Walk.lushr (C : Walk W l Z a0 tb own code ml rt nm R Q) (pc' : Nat) {x : Int64} {y : Int32} (hd : decode code pc = .ok (.lushr, 1)) (hp : pc' = pc + 1) (K : W h k n pc' Ls (.long (XT.ushrL x y) :: st)) : W h k n pc Ls (.int y :: .long x :: st) := by
  subst hp; exact C.plain (fun hA hx hb' hr => XT.lushr hA hx rfl (hb hb' hd) rfl hr) K
/-! the returns -/
theorem Walk.ret (C : Walk W l Z a0 tb own code ml rt nm R Q) {v : Value} {t : FieldType} {i : Instr} (hd : decode code pc = .ok (i, 1)) (hrt : rt = some t) (hn : narrow t v = v)
    (hi : (i = .ireturn ∧ (t = .int ∨ t = .boolean ∨ t = .byte ∨ t = .char ∨ t = .short) ∧ ∃ z, v = .int z) ∨ (i = .lreturn ∧ t = .long ∧ ∃ z, v = .long z) ∨ (i = .dreturn ∧ t = .double ∧ ∃ z, v = .double z) ∨ (i = .freturn ∧ t = .float ∧ ∃ z, v = .float z) ∨ (i = .areturn ∧ t.isReference = true ∧ v.isRef = true))
    (hq : Q (some v) h) (hk : k ≤ R.cells) (hs : n ≤ R.slots) : W h k n pc Ls (v :: st) := by
  obtain ⟨p, e, s, m, args, below, meth, c, rfl, hx, hby, hml, hown, hrt', hlk, hZ, hnm, hw⟩ := C
  intro hE T locs X eT N
  subst eT hrt
  obtain ⟨fs, hr, hrun, hended, hW, hsame⟩ := X.leave (v := some v) (fun h => by rw [hrt'] at h; cases h)
  exact ⟨_, _, retOut X hx hrt' hn hi (hb hby hd) hr, hrun, hended, _, _, rfl, ⟨hq, hE, N⟩, ⟨_, rfl⟩, hW, hsame.mono hk hs⟩
theorem Walk.retI (C : Walk W l Z a0 tb own code ml rt nm R Q) {x : Int32} (t : FieldType) (hd : decode code pc = .ok (.ireturn, 1)) (hrt : rt = some t) (ht : t = .int ∨ t = .boolean ∨ t = .byte ∨ t = .char ∨ t = .short) (hn : nar t x = x)
    (hk : k ≤ R.cells) (hs : n ≤ R.slots) (hq : Q (some (.int x)) h) : W h k n pc Ls (.int x :: st) :=
  C.ret hd hrt (by have e : narrow t (.int x) = .int (nar t x) := by rcases ht with rfl | rfl | rfl | rfl | rfl <;> rfl
                   rw [e, hn]) (Or.inl ⟨rfl, ht, _, rfl⟩) hq hk hs
theorem Walk.retA (C : Walk W l Z a0 tb own code ml rt nm R Q) {v : Value} (t : FieldType) (hd : decode code pc = .ok (.areturn, 1)) (hrt : rt = some t) (ht : t.isReference = true) (hv : v.isRef = true)
    (hk : k ≤ R.cells) (hs : n ≤ R.slots) (hq : Q (some v) h) : W h k n pc Ls (v :: st) :=
  C.ret hd hrt (by cases t <;> first | (cases ht; done) | (cases v <;> first | (cases hv; done) | rfl)) (Or.inr (Or.inr (Or.inr (Or.inr ⟨rfl, ht, hv⟩)))) hq hk hs
theorem Walk.ret0 (C : Walk W l Z a0 tb own code ml rt nm R Q) (hd : decode code pc = .ok (.return_, 1)) (hrt : rt = none) (hk : k ≤ R.cells) (hs : n ≤ R.slots) (hq : Q none h) : W h k n pc Ls [] := by
  obtain ⟨p, e, s, m, args, below, meth, c, rfl, hx, hby, hml, hown, hrt', hlk, hZ, hnm, hw⟩ := C
  intro hE T locs X eT N
  subst eT hrt
  obtain ⟨fs, hr, hrun, hended, hW, hsame⟩ := X.leave (v := none) (fun _ => rfl)
  exact ⟨_, _, X.returnOut hx hrt' (hb hby hd) hr, hrun, hended, _, _, rfl, ⟨hq, hE, N⟩, ⟨_, rfl⟩, hW, hsame.mono hk hs⟩
/-! constants of the pool, static fields, fields -/
theorem Walk.ldc (C : Walk W l Z a0 tb own code ml rt nm R Q) (pc' : Nat) (v : Int32) {idx : Nat} (hd : decode code pc = .ok (.ldc idx, 2)) (hp : pc' = pc + 2) (w : Jvm.Cond.constant own idx v ∈ tb) (K : W h k n pc' Ls (.int v :: st)) : W h k n pc Ls st := by
  obtain ⟨p, e, s, m, args, below, meth, c, rfl, hx, hby, hml, hown, hrt', hlk, hZ, hnm, hw⟩ := C
  intro hE T locs X eT N
  subst hp
  obtain ⟨u, o, h1, h2⟩ := K hE T locs X eT N
  exact ⟨u, o, X.ldcI hx hown (mv hZ (hw _ w)) rfl (hb hby hd) h1, h2⟩
theorem Walk.ldcW (C : Walk W l Z a0 tb own code ml rt nm R Q) (pc' : Nat) (v : Int32) {idx : Nat} (hd : decode code pc = .ok (.ldc_w idx, 3)) (hp : pc' = pc + 3) (w : Jvm.Cond.constant own idx v ∈ tb) (K : W h k n pc' Ls (.int v :: st)) : W h k n pc Ls st := by
  obtain ⟨p, e, s, m, args, below, meth, c, rfl, hx, hby, hml, hown, hrt', hlk, hZ, hnm, hw⟩ := C
  intro hE T locs X eT N
  subst hp
  obtain ⟨u, o, h1, h2⟩ := K hE T locs X eT N
  exact ⟨u, o, X.ldcWI hx hown (mv hZ (hw _ w)) rfl (hb hby hd) h1, h2⟩
theorem Walk.ldc2 (C : Walk W l Z a0 tb own code ml rt nm R Q) (pc' : Nat) (v : Int64) {idx : Nat} (hd : decode code pc = .ok (.ldc2_w idx, 3)) (hp : pc' = pc + 3) (w : Jvm.Cond.constantLong own idx v ∈ tb) (K : W h k n pc' Ls (.long v :: st)) : W h k n pc Ls st := by
  obtain ⟨p, e, s, m, args, below, meth, c, rfl, hx, hby, hml, hown, hrt', hlk, hZ, hnm, hw⟩ := C
  intro hE T locs X eT N
  subst hp
  obtain ⟨u, o, h1, h2⟩ := K hE T locs X eT N
  exact ⟨u, o, X.ldc2J hx hown (mv hZ (hw _ w)) rfl (hb hby hd) h1, h2⟩
theorem Walk.getstatic (C : Walk W l Z a0 tb own code ml rt nm R Q) (pc' : Nat) {idx : Nat} {O f d : String} {v : Value} (hd : decode code pc = .ok (.getstatic idx, 3)) (hp : pc' = pc + 3) (w : Jvm.Cond.fieldLink own idx O f d ∈ tb) (F : Sta Z Z.heap O f d v) (K : W h k n pc' Ls (v :: st)) : W h k n pc Ls st := by
  obtain ⟨p, e, s, m, args, below, meth, c, rfl, hx, hby, hml, hown, hrt', hlk, hZ, hnm, hw⟩ := C
  intro hE T locs X eT N
  subst hp
  obtain ⟨T', X', e', S⟩ := getS X hx hZ hown (host := "") (hw _ w) Via.refl eT (F.ext hE) (g := mkF m pc Ls st) rfl (hb hby hd)
  obtain ⟨u, o, h1, h2⟩ := K hE T' locs X' e' N
  exact ⟨u, o, S _ h1, h2⟩
theorem Walk.getfield (C : Walk W l Z a0 tb own code ml rt nm R Q) (pc' : Nat) {idx : Nat} {R0 O f d : String} {a : Addr} {v : Value} (hd : decode code pc = .ok (.getfield idx, 3)) (hp : pc' = pc + 3) (w : Jvm.Cond.fieldLink own idx R0 f d ∈ tb) (via : Via Z R0 O f d) (F : Fld Z h a O f d v) (K : W h k n pc' Ls (v :: st)) : W h k n pc Ls (.ref a :: st) := by
  obtain ⟨p, e, s, m, args, below, meth, c, rfl, hx, hby, hml, hown, hrt', hlk, hZ, hnm, hw⟩ := C
  intro hE T locs X eT N
  subst hp
  obtain ⟨T', X', e', S⟩ := getF X hx hZ hown (host := "") (Or.inl (hw _ w)) via eT F (g := mkF m pc Ls (.ref a :: st)) rfl rfl (hb hby hd)
  obtain ⟨u, o, h1, h2⟩ := K hE T' locs X' e' N
  exact ⟨u, o, S _ h1, h2⟩
theorem Walk.getfieldOld (C : Walk W l Z a0 tb own code ml rt nm R Q) (pc' : Nat) {idx : Nat} {R0 O f d : String} {a : Addr} {v : Value} (hd : decode code pc = .ok (.getfield idx, 3)) (hp : pc' = pc + 3) (w : Jvm.Cond.fieldLink own idx R0 f d ∈ tb) (via : Via Z R0 O f d) (F : Fld Z Z.heap a O f d v) (K : W h k n pc' Ls (v :: st)) : W h k n pc Ls (.ref a :: st) :=
  C.kept fun hE => C.getfield pc' hd hp w via (F.ext hE) K
theorem Walk.putfield (C : Walk W l Z a0 tb own code ml rt nm R Q) (pc' : Nat) {idx kk : Nat} {R0 O f d D : String} {a : Addr} {v v' old : Value} (ty : FieldType) (hd : decode code pc = .ok (.putfield idx, 3)) (hp : pc' = pc + 3) (w : Jvm.Cond.fieldLink own idx R0 f d ∈ tb) (via : Via Z R0 O f d) (F : Fld Z h a O f d old) (E : Exa Z h a D)
    (L : Jvm.Cond.lays D O f d ∈ tb ∨ (Jvm.Cond.laysFinal D O f d ∈ tb ∧ own = O ∧ nm = "<init>")) (wi : Jvm.Cond.instantiable D kk ∈ tb) (hty : parseFieldDescriptor d = some ty) (hn : narrow ty v = v') (hf : fits ty v' = true) (ha : Z.heap.size ≤ a)
    (K : ∀ h', Wr h h' a (Jvm.RoadKit.slotOf Z O f d) v' → W h' k n pc' Ls st) : W h k n pc Ls (v :: .ref a :: st) := by
  obtain ⟨p, e, s, m, args, below, meth, c, rfl, hx, hby, hml, hown, hrt', hlk, hZ, hnm, hw⟩ := C
  intro hE T locs X eT N
  subst hp
  obtain ⟨T', h', X', e', Wr', S⟩ := putFN X hx hZ hown (hw _ w) via eT F E (L.imp (hw _) fun q => ⟨hw _ q.1, q.2.1, hnm.trans q.2.2⟩) (hw _ wi) hty hn hf (g := mkF m pc Ls (v :: .ref a :: st)) rfl rfl (hb hby hd)
  obtain ⟨u, o, h1, h2⟩ := K h' Wr' (Old.wr (n0 := Z.heap.size) ⟨rfl, hE⟩ Wr' ha).2 T' _ X' e' (Fr.snoc X' N ha)
  exact ⟨u, o, S _ h1, h2⟩
/-! arrays: the places' values as a list -/
def Al (Z : State) (h : Heap) (a : Addr) (ty : FieldType) (vs : List Value) : Prop := ∃ c : Cell, Arr Z h a c ty ∧ c.slots.toList = vs
theorem Al.lt {a : Addr} {ty : FieldType} {vs : List Value} (A : Al Z h a ty vs) : a < h.size := by obtain ⟨c, A, -⟩ := A; exact A.lt
theorem Al.ext {h' : Heap} {a : Addr} {ty : FieldType} {vs : List Value} (A : Al Z h a ty vs) (E : Ext h h') : Al Z h' a ty vs := by obtain ⟨c, A, q⟩ := A; exact ⟨c, A.ext E, q⟩
theorem Al.keep {h' : Heap} {a : Addr} {ty : FieldType} {vs : List Value} {ws : List Addr} (A : Al Z h a ty vs) (K : Keep h h' ws) (q : a ∉ ws) : Al Z h' a ty vs := by obtain ⟨c, A, r⟩ := A; exact ⟨c, ⟨K.2.1 a c A.1 q, A.2⟩, r⟩
theorem Al.set {h' : Heap} {a : Addr} {ty : FieldType} {vs : List Value} {i : Nat} {v : Value} (A : Al Z h a ty vs) (Wr' : Wr h h' a i v) : Al Z h' a ty (vs.set i v) := by
  obtain ⟨c, A, rfl⟩ := A
  exact ⟨_, A.same Wr', by simp [Cell.setSlot]⟩
theorem list_at {c : Cell} {vs : List Value} (q : c.slots.toList = vs) (i : Nat) : c.slots[i]? = vs[i]? := by subst q; simp
theorem list_sz {c : Cell} {vs : List Value} (q : c.slots.toList = vs) : c.slots.size = vs.length := by subst q; simp
theorem Walk.newarray (C : Walk W l Z a0 tb own code ml rt nm R Q) (pc' : Nat) {aty : ArrayType} {z : Int32} (cap : Nat) (hd : decode code pc = .ok (.newarray aty, 2)) (hp : pc' = pc + 2) (w : Jvm.Cond.arrayClass (newarray.typeOf aty) ∈ tb) (hz : ¬ z < 0) (hcap : z.toNatClampNeg ≤ cap) (hb' : cap * 8 ≤ 536870912) (hc : k + 1 ≤ R.cells) (hl : n + cap ≤ R.slots)
    (K : ∀ h', Ext h h' → Al Z h' h.size (newarray.typeOf aty) (List.replicate z.toNatClampNeg (defaultValue (newarray.typeOf aty))) → W h' (k + 1) (n + cap) pc' Ls (.ref h.size :: st)) : W h k n pc Ls (.int z :: st) := by
  obtain ⟨p, e, s, m, args, below, meth, c, rfl, hx, hby, hml, hown, hrt', hlk, hZ, hnm, hw⟩ := C
  intro hE T locs X eT N
  subst hp
  obtain ⟨T', h', cA, X', e', E', A', S⟩ := newP X hx hZ (hw _ w) eT (g := mkF m pc Ls (.int z :: st)) rfl (hb hby hd) rfl hz hcap hb' hc hl
  obtain ⟨u, o, h1, h2⟩ := K h' E' ⟨_, A', by simp [newA]⟩ (Old.ext (n0 := Z.heap.size) ⟨rfl, hE⟩ E').2 T' _ X' e' N
  exact ⟨u, o, S _ h1, h2⟩
theorem Walk.anewarray (C : Walk W l Z a0 tb own code ml rt nm R Q) (pc' : Nat) {idx : Nat} {D : String} {z : Int32} (cap : Nat) (hd : decode code pc = .ok (.anewarray idx, 3)) (hp : pc' = pc + 3) (w : Jvm.Cond.classLink own idx D ∈ tb) (w2 : Jvm.Cond.arrayOver (.object D) ∈ tb) (hz : ¬ z < 0) (hcap : z.toNatClampNeg ≤ cap) (hb' : cap * 8 ≤ 536870912) (hc : k + 1 ≤ R.cells) (hl : n + cap ≤ R.slots)
    (K : ∀ h' cA, Ext h h' → (∃ c : Cell, Arr Z h' h.size c (.object D) ∧ c.cls = cA ∧ c.slots.toList = List.replicate z.toNatClampNeg .null) → Ovr Z cA D → W h' (k + 1) (n + cap) pc' Ls (.ref h.size :: st)) : W h k n pc Ls (.int z :: st) := by
  obtain ⟨p, e, s, m, args, below, meth, c, rfl, hx, hby, hml, hown, hrt', hlk, hZ, hnm, hw⟩ := C
  intro hE T locs X eT N
  subst hp
  obtain ⟨T', h', cA, X', e', E', A', O', S⟩ := newR X hx hZ hown (hw _ w) (hw _ w2) eT (g := mkF m pc Ls (.int z :: st)) rfl (hb hby hd) rfl hz hcap hb' hc hl
  obtain ⟨u, o, h1, h2⟩ := K h' cA E' ⟨_, A', rfl, by simp [newA, defaultValue]⟩ O' (Old.ext (n0 := Z.heap.size) ⟨rfl, hE⟩ E').2 T' _ X' e' N
  exact ⟨u, o, S _ h1, h2⟩
/-- an array over the class D: its class, its places -/
def Ro (Z : State) (h : Heap) (a : Addr) (D : String) (cA : ClassId) (vs : List Value) : Prop := ∃ c : Cell, Arr Z h a c (.object D) ∧ c.cls = cA ∧ c.slots.toList = vs
theorem Ro.lt {a : Addr} {D : String} {cA : ClassId} {vs : List Value} (A : Ro Z h a D cA vs) : a < h.size := by obtain ⟨c, A, -⟩ := A; exact A.lt
theorem Ro.ext {h' : Heap} {a : Addr} {D : String} {cA : ClassId} {vs : List Value} (A : Ro Z h a D cA vs) (E : Ext h h') : Ro Z h' a D cA vs := by obtain ⟨c, A, q⟩ := A; exact ⟨c, A.ext E, q⟩
theorem Ro.keep {h' : Heap} {a : Addr} {D : String} {cA : ClassId} {vs : List Value} {ws : List Addr} (A : Ro Z h a D cA vs) (K : Keep h h' ws) (q : a ∉ ws) : Ro Z h' a D cA vs := by obtain ⟨c, A, r⟩ := A; exact ⟨c, ⟨K.2.1 a c A.1 q, A.2⟩, r⟩
theorem Walk.aastore (C : Walk W l Z a0 tb own code ml rt nm R Q) (pc' : Nat) {a b : Addr} {D : String} {cA : ClassId} {vs : List Value} {j : Int32} (i : Nat) (hd : decode code pc = .ok (.aastore, 1)) (hp : pc' = pc + 1) (A : Ro Z h a D cA vs) (O : Ovr Z cA D) (I : Ins Z h b D true) (ha : Z.heap.size ≤ a) (hn : ¬ j < 0) (hi : j.toNatClampNeg = i) (hl : i < vs.length)
    (K : ∀ h', Wr h h' a i (.ref b) → Ro Z h' a D cA (vs.set i (.ref b)) → W h' k n pc' Ls st) : W h k n pc Ls (.ref b :: .int j :: .ref a :: st) := by
  obtain ⟨p, e, s, m, args, below, meth, c, rfl, hx, hby, hml, hown, hrt', hlk, hZ, hnm, hw⟩ := C
  intro hE T locs X eT N
  subst hp
  obtain ⟨cl, A1, A2, A3⟩ := A
  have hj : ¬ (j < 0 ∨ cl.slots.size ≤ j.toNatClampNeg) := by rw [list_sz A3, hi]; exact fun q => q.elim hn (fun q => absurd hl (Nat.not_lt.mpr q))
  obtain ⟨T', h', X', e', Wr', S⟩ := stR X hx hZ eT A1 hj rfl (Sto.ofV A1 A2 O I) (g := mkF m pc Ls (.ref b :: .int j :: .ref a :: st)) rfl rfl (hb hby hd)
  rw [hi] at Wr'
  have R' : Ro Z h' a D cA (vs.set i (.ref b)) := ⟨_, A1.same Wr', by simpa [Cell.setSlot] using A2, by subst A3; simp [Cell.setSlot]⟩
  obtain ⟨u, o, h1, h2⟩ := K h' Wr' R' (Old.wr (n0 := Z.heap.size) ⟨rfl, hE⟩ Wr' ha).2 T' _ X' e' (Fr.snoc X' N ha)
  exact ⟨u, o, S _ h1, h2⟩
theorem Walk.castore (C : Walk W l Z a0 tb own code ml rt nm R Q) (pc' : Nat) {a : Addr} {vs : List Value} {j x : Int32} (i : Nat) (x' : Int32) (hd : decode code pc = .ok (.castore, 1)) (hp : pc' = pc + 1) (A : Al Z h a .char vs) (ha : Z.heap.size ≤ a) (hn : ¬ j < 0) (hi : j.toNatClampNeg = i) (hl : i < vs.length) (hx' : nar .char x = x')
    (K : ∀ h', Wr h h' a i (.int x') → Al Z h' a .char (vs.set i (.int x')) → W h' k n pc' Ls st) : W h k n pc Ls (.int x :: .int j :: .ref a :: st) := by
  obtain ⟨p, e, s, m, args, below, meth, c, rfl, hx, hby, hml, hown, hrt', hlk, hZ, hnm, hw⟩ := C
  intro hE T locs X eT N
  subst hp
  have A' := A
  obtain ⟨cl, A1, A3⟩ := A
  have hj : ¬ (j < 0 ∨ cl.slots.size ≤ j.toNatClampNeg) := by rw [list_sz A3, hi]; exact fun q => q.elim hn (fun q => absurd hl (Nat.not_lt.mpr q))
  obtain ⟨T', h', X', e', Wr', S⟩ := stC X hx hZ eT A1 hj (g := mkF m pc Ls (.int x :: .int j :: .ref a :: st)) rfl rfl (hb hby hd)
  rw [hi, hx'] at Wr'
  obtain ⟨u, o, h1, h2⟩ := K h' Wr' (A'.set Wr') (Old.wr (n0 := Z.heap.size) ⟨rfl, hE⟩ Wr' ha).2 T' _ X' e' (Fr.snoc X' N ha)
  exact ⟨u, o, S _ h1, h2⟩
theorem Walk.bastoreB (C : Walk W l Z a0 tb own code ml rt nm R Q) (pc' : Nat) {a : Addr} {vs : List Value} {j x : Int32} (i : Nat) (x' : Int32) (hd : decode code pc = .ok (.bastore, 1)) (hp : pc' = pc + 1) (A : Al Z h a .byte vs) (ha : Z.heap.size ≤ a) (hn : ¬ j < 0) (hi : j.toNatClampNeg = i) (hl : i < vs.length) (hx' : nar .byte x = x')
    (K : ∀ h', Wr h h' a i (.int x') → Al Z h' a .byte (vs.set i (.int x')) → W h' k n pc' Ls st) : W h k n pc Ls (.int x :: .int j :: .ref a :: st) := by
  obtain ⟨p, e, s, m, args, below, meth, c, rfl, hx, hby, hml, hown, hrt', hlk, hZ, hnm, hw⟩ := C
  intro hE T locs X eT N
  subst hp
  have A' := A
  obtain ⟨cl, A1, A3⟩ := A
  have hj : ¬ (j < 0 ∨ cl.slots.size ≤ j.toNatClampNeg) := by rw [list_sz A3, hi]; exact fun q => q.elim hn (fun q => absurd hl (Nat.not_lt.mpr q))
  obtain ⟨T', h', X', e', Wr', S⟩ := stB X hx hZ eT A1 hj (g := mkF m pc Ls (.int x :: .int j :: .ref a :: st)) rfl rfl (hb hby hd)
  rw [hi, hx'] at Wr'
  obtain ⟨u, o, h1, h2⟩ := K h' Wr' (A'.set Wr') (Old.wr (n0 := Z.heap.size) ⟨rfl, hE⟩ Wr' ha).2 T' _ X' e' (Fr.snoc X' N ha)
  exact ⟨u, o, S _ h1, h2⟩
theorem Walk.bastoreZ (C : Walk W l Z a0 tb own code ml rt nm R Q) (pc' : Nat) {a : Addr} {vs : List Value} {j x : Int32} (i : Nat) (x' : Int32) (hd : decode code pc = .ok (.bastore, 1)) (hp : pc' = pc + 1) (A : Al Z h a .boolean vs) (ha : Z.heap.size ≤ a) (hn : ¬ j < 0) (hi : j.toNatClampNeg = i) (hl : i < vs.length) (hx' : nar .boolean x = x')
    (K : ∀ h', Wr h h' a i (.int x') → Al Z h' a .boolean (vs.set i (.int x')) → W h' k n pc' Ls st) : W h k n pc Ls (.int x :: .int j :: .ref a :: st) := by
  obtain ⟨p, e, s, m, args, below, meth, c, rfl, hx, hby, hml, hown, hrt', hlk, hZ, hnm, hw⟩ := C
  intro hE T locs X eT N
  subst hp
  have A' := A
  obtain ⟨cl, A1, A3⟩ := A
  have hj : ¬ (j < 0 ∨ cl.slots.size ≤ j.toNatClampNeg) := by rw [list_sz A3, hi]; exact fun q => q.elim hn (fun q => absurd hl (Nat.not_lt.mpr q))
  obtain ⟨T', h', X', e', Wr', S⟩ := stZ X hx hZ eT A1 hj (g := mkF m pc Ls (.int x :: .int j :: .ref a :: st)) rfl rfl (hb hby hd)
  rw [hi, hx'] at Wr'
  obtain ⟨u, o, h1, h2⟩ := K h' Wr' (A'.set Wr') (Old.wr (n0 := Z.heap.size) ⟨rfl, hE⟩ Wr' ha).2 T' _ X' e' (Fr.snoc X' N ha)
  exact ⟨u, o, S _ h1, h2⟩
theorem Walk.iastore (C : Walk W l Z a0 tb own code ml rt nm R Q) (pc' : Nat) {a : Addr} {vs : List Value} {j x : Int32} (i : Nat) (hd : decode code pc = .ok (.iastore, 1)) (hp : pc' = pc + 1) (A : Al Z h a .int vs) (ha : Z.heap.size ≤ a) (hn : ¬ j < 0) (hi : j.toNatClampNeg = i) (hl : i < vs.length)
    (K : ∀ h', Wr h h' a i (.int x) → Al Z h' a .int (vs.set i (.int x)) → W h' k n pc' Ls st) : W h k n pc Ls (.int x :: .int j :: .ref a :: st) := by
  obtain ⟨p, e, s, m, args, below, meth, c, rfl, hx, hby, hml, hown, hrt', hlk, hZ, hnm, hw⟩ := C
  intro hE T locs X eT N
  subst hp
  have A' := A
  obtain ⟨cl, A1, A3⟩ := A
  have hj : ¬ (j < 0 ∨ cl.slots.size ≤ j.toNatClampNeg) := by rw [list_sz A3, hi]; exact fun q => q.elim hn (fun q => absurd hl (Nat.not_lt.mpr q))
  obtain ⟨T', h', X', e', Wr', S⟩ := stI X hx hZ eT A1 hj (g := mkF m pc Ls (.int x :: .int j :: .ref a :: st)) rfl rfl (hb hby hd)
  rw [hi] at Wr'
  obtain ⟨u, o, h1, h2⟩ := K h' Wr' (A'.set Wr') (Old.wr (n0 := Z.heap.size) ⟨rfl, hE⟩ Wr' ha).2 T' _ X' e' (Fr.snoc X' N ha)
  exact ⟨u, o, S _ h1, h2⟩
theorem Walk.iaload (C : Walk W l Z a0 tb own code ml rt nm R Q) (pc' : Nat) {a : Addr} {vs : List Value} {j : Int32} (i : Nat) (v : Value) (hd : decode code pc = .ok (.iaload, 1)) (hp : pc' = pc + 1) (A : Al Z h a .int vs) (hn : ¬ j < 0) (hi : j.toNatClampNeg = i) (hv : vs[i]? = some v)
    (K : W h k n pc' Ls (v :: st)) : W h k n pc Ls (.int j :: .ref a :: st) := by
  obtain ⟨p, e, s, m, args, below, meth, c, rfl, hx, hby, hml, hown, hrt', hlk, hZ, hnm, hw⟩ := C
  intro hE T locs X eT N
  subst hp
  obtain ⟨cl, A1, A3⟩ := A
  have hl : i < vs.length := (List.getElem?_eq_some_iff.mp hv).1
  have hj : ¬ (j < 0 ∨ cl.slots.size ≤ j.toNatClampNeg) := by rw [list_sz A3, hi]; exact fun q => q.elim hn (fun q => absurd hl (Nat.not_lt.mpr q))
  obtain ⟨u, o, h1, h2⟩ := K hE T _ X eT N
  exact ⟨u, o, X.iaload hx (by rw [eT]; exact A1.1) (State.isArrayOf_alike hZ.alike A1.2.1) A1.2.2 hj (by rw [hi, list_at A3]; exact hv) (g := mkF m pc Ls (.int j :: .ref a :: st)) rfl rfl (hb hby hd) _ h1, h2⟩
theorem Walk.caload (C : Walk W l Z a0 tb own code ml rt nm R Q) (pc' : Nat) {a : Addr} {vs : List Value} {j : Int32} (i : Nat) (v : Value) (hd : decode code pc = .ok (.caload, 1)) (hp : pc' = pc + 1) (A : Al Z h a .char vs) (hn : ¬ j < 0) (hi : j.toNatClampNeg = i) (hv : vs[i]? = some v)
    (K : W h k n pc' Ls (v :: st)) : W h k n pc Ls (.int j :: .ref a :: st) := by
  obtain ⟨p, e, s, m, args, below, meth, c, rfl, hx, hby, hml, hown, hrt', hlk, hZ, hnm, hw⟩ := C
  intro hE T locs X eT N
  subst hp
  obtain ⟨cl, A1, A3⟩ := A
  have hl : i < vs.length := (List.getElem?_eq_some_iff.mp hv).1
  have hj : ¬ (j < 0 ∨ cl.slots.size ≤ j.toNatClampNeg) := by rw [list_sz A3, hi]; exact fun q => q.elim hn (fun q => absurd hl (Nat.not_lt.mpr q))
  obtain ⟨u, o, h1, h2⟩ := K hE T _ X eT N
  exact ⟨u, o, X.caload hx (by rw [eT]; exact A1.1) (State.isArrayOf_alike hZ.alike A1.2.1) A1.2.2 hj (by rw [hi, list_at A3]; exact hv) (g := mkF m pc Ls (.int j :: .ref a :: st)) rfl rfl (hb hby hd) _ h1, h2⟩
theorem Walk.baloadB (C : Walk W l Z a0 tb own code ml rt nm R Q) (pc' : Nat) {a : Addr} {vs : List Value} {j : Int32} (i : Nat) (v : Value) (hd : decode code pc = .ok (.baload, 1)) (hp : pc' = pc + 1) (A : Al Z h a .byte vs) (hn : ¬ j < 0) (hi : j.toNatClampNeg = i) (hv : vs[i]? = some v)
    (K : W h k n pc' Ls (v :: st)) : W h k n pc Ls (.int j :: .ref a :: st) := by
  obtain ⟨p, e, s, m, args, below, meth, c, rfl, hx, hby, hml, hown, hrt', hlk, hZ, hnm, hw⟩ := C
  intro hE T locs X eT N
  subst hp
  obtain ⟨cl, A1, A3⟩ := A
  have hl : i < vs.length := (List.getElem?_eq_some_iff.mp hv).1
  have hj : ¬ (j < 0 ∨ cl.slots.size ≤ j.toNatClampNeg) := by rw [list_sz A3, hi]; exact fun q => q.elim hn (fun q => absurd hl (Nat.not_lt.mpr q))
  obtain ⟨u, o, h1, h2⟩ := K hE T _ X eT N
  exact ⟨u, o, X.baloadBytes hx (by rw [eT]; exact A1.1) (State.isArrayOf_alike hZ.alike A1.2.1) A1.2.2 hj (by rw [hi, list_at A3]; exact hv) (g := mkF m pc Ls (.int j :: .ref a :: st)) rfl rfl (hb hby hd) _ h1, h2⟩
theorem Walk.baloadZ (C : Walk W l Z a0 tb own code ml rt nm R Q) (pc' : Nat) {a : Addr} {vs : List Value} {j : Int32} (i : Nat) (v : Value) (hd : decode code pc = .ok (.baload, 1)) (hp : pc' = pc + 1) (A : Al Z h a .boolean vs) (hn : ¬ j < 0) (hi : j.toNatClampNeg = i) (hv : vs[i]? = some v)
    (K : W h k n pc' Ls (v :: st)) : W h k n pc Ls (.int j :: .ref a :: st) := by
  obtain ⟨p, e, s, m, args, below, meth, c, rfl, hx, hby, hml, hown, hrt', hlk, hZ, hnm, hw⟩ := C
  intro hE T locs X eT N
  subst hp
  obtain ⟨cl, A1, A3⟩ := A
  have hl : i < vs.length := (List.getElem?_eq_some_iff.mp hv).1
  have hj : ¬ (j < 0 ∨ cl.slots.size ≤ j.toNatClampNeg) := by rw [list_sz A3, hi]; exact fun q => q.elim hn (fun q => absurd hl (Nat.not_lt.mpr q))
  obtain ⟨u, o, h1, h2⟩ := K hE T _ X eT N
  exact ⟨u, o, X.baloadBooleans hx (by rw [eT]; exact A1.1) (State.isArrayOf_alike hZ.alike A1.2.1) A1.2.2 hj (by rw [hi, list_at A3]; exact hv) (g := mkF m pc Ls (.int j :: .ref a :: st)) rfl rfl (hb hby hd) _ h1, h2⟩
theorem Walk.aaload (C : Walk W l Z a0 tb own code ml rt nm R Q) (pc' : Nat) {a : Addr} {D : String} {cA : ClassId} {vs : List Value} {j : Int32} (i : Nat) (v : Value) (hd : decode code pc = .ok (.aaload, 1)) (hp : pc' = pc + 1) (A : Ro Z h a D cA vs) (hn : ¬ j < 0) (hi : j.toNatClampNeg = i) (hv : vs[i]? = some v)
    (K : W h k n pc' Ls (v :: st)) : W h k n pc Ls (.int j :: .ref a :: st) := by
  obtain ⟨p, e, s, m, args, below, meth, c, rfl, hx, hby, hml, hown, hrt', hlk, hZ, hnm, hw⟩ := C
  intro hE T locs X eT N
  subst hp
  obtain ⟨cl, A1, A2, A3⟩ := A
  have hl : i < vs.length := (List.getElem?_eq_some_iff.mp hv).1
  have hj : ¬ (j < 0 ∨ cl.slots.size ≤ j.toNatClampNeg) := by rw [list_sz A3, hi]; exact fun q => q.elim hn (fun q => absurd hl (Nat.not_lt.mpr q))
  obtain ⟨u, o, h1, h2⟩ := K hE T _ X eT N
  exact ⟨u, o, X.aaload hx (by rw [eT]; exact A1.1) (State.isArrayOf_alike hZ.alike A1.2.1) rfl A1.2.2 hj (by rw [hi, list_at A3]; exact hv) (g := mkF m pc Ls (.int j :: .ref a :: st)) rfl rfl (hb hby hd) _ h1, h2⟩
theorem Walk.arraylength (C : Walk W l Z a0 tb own code ml rt nm R Q) (pc' : Nat) {a : Addr} {ty : FieldType} {vs : List Value} (z : Int32) (hd : decode code pc = .ok (.arraylength, 1)) (hp : pc' = pc + 1) (A : Al Z h a ty vs) (hz : vs.length.toInt32 = z)
    (K : W h k n pc' Ls (.int z :: st)) : W h k n pc Ls (.ref a :: st) := by
  obtain ⟨p, e, s, m, args, below, meth, c, rfl, hx, hby, hml, hown, hrt', hlk, hZ, hnm, hw⟩ := C
  intro hE T locs X eT N
  subst hp
  obtain ⟨cl, A1, A3⟩ := A
  obtain ⟨u, o, h1, h2⟩ := K hE T _ X eT N
  rw [← hz, ← list_sz A3] at h1
  exact ⟨u, o, X.arraylength hx (by rw [eT]; exact A1.1) (State.isArrayOf_alike hZ.alike A1.2.1) (g := mkF m pc Ls (.ref a :: st)) rfl rfl (hb hby hd) _ h1, h2⟩
/-! objects, calls -/
theorem Walk.new (C : Walk W l Z a0 tb own code ml rt nm R Q) (pc' : Nat) {idx sz : Nat} {D : String} (hd : decode code pc = .ok (.new idx, 3)) (hp : pc' = pc + 3) (w : Jvm.Cond.classLink own idx D ∈ tb) (wi : Jvm.Cond.instantiable D sz ∈ tb) (wz : Jvm.Cond.initialized D ∈ tb) (hc : k + 1 ≤ R.cells) (hl : n + sz ≤ R.slots)
    (K : ∀ h', Ext h h' → Exa Z h' h.size D → (∀ {O f d : String} {ty : FieldType}, Laid Z a0 D O f d → parseFieldDescriptor d = some ty → Fld Z h' h.size O f d (defaultValue ty)) → W h' (k + 1) (n + sz) pc' Ls (.ref h.size :: st)) : W h k n pc Ls st := by
  obtain ⟨p, e, s, m, args, below, meth, c, rfl, hx, hby, hml, hown, hrt', hlk, hZ, hnm, hw⟩ := C
  intro hE T locs X eT N
  subst hp
  obtain ⟨T', h', X', e', E', A', D', -, S⟩ := newO X hx hZ hown (hw _ w) (hw _ wi) (hw _ wz) eT (g := mkF m pc Ls st) rfl (hb hby hd) hc hl
  obtain ⟨u, o, h1, h2⟩ := K h' E' A' D' (Old.ext (n0 := Z.heap.size) ⟨rfl, hE⟩ E').2 T' _ X' e' N
  exact ⟨u, o, S _ h1, h2⟩
theorem Walk.initObj (C : Walk W l Z a0 tb own code ml rt nm R Q) (pc' : Nat) {idx : Nat} {a : Addr} (wd : Nat) (hd : decode code pc = .ok (.invokespecial idx, 3)) (hp : pc' = pc + 3) (w1 : Jvm.Cond.methodLink own idx Lib.objectInit ∈ tb) (w2 : Jvm.Cond.instanceMethod Lib.objectInit ∈ tb) (w3 : Jvm.Cond.code Lib.objectInit ⟨#[0xb1]⟩ 1 none ∈ tb) (hls : Ls.size = ml) (hf : 1 ≤ R.frames) (hwd : (st.map fun v => v.category).sum ≤ wd) (hl : wd + 12 ≤ R.locals)
    (K : W h k n pc' Ls st) : W h k n pc Ls (.ref a :: st) := by
  obtain ⟨p, e, s, m, args, below, meth, c, rfl, hx, hby, hml, hown, hrt', hlk, hZ, hnm, hw⟩ := C
  intro hE T locs X eT N
  subst hp
  obtain ⟨T', X', e', S⟩ := initO X hx hZ hown (hw _ w1) (hw _ w2) (hw _ w3) eT (g := mkF m pc Ls (.ref a :: st)) rfl (by show Ls.size = _; rw [hls, hml]) rfl (hb hby hd) hf (W := wd) (by show 2 * 0 + _ ≤ _; omega) hl
  obtain ⟨u, o, h1, h2⟩ := K hE T' _ X' e' N
  exact ⟨u, o, S _ h1, h2⟩
theorem Walk.checkcast (C : Walk W l Z a0 tb own code ml rt nm R Q) (pc' : Nat) {idx : Nat} {D : String} {a : Addr} (hd : decode code pc = .ok (.checkcast idx, 3)) (hp : pc' = pc + 3) (w : Jvm.Cond.classLink own idx D ∈ tb) (I : Ins Z h a D true) (K : W h k n pc' Ls (.ref a :: st)) : W h k n pc Ls (.ref a :: st) := by
  obtain ⟨p, e, s, m, args, below, meth, c, rfl, hx, hby, hml, hown, hrt', hlk, hZ, hnm, hw⟩ := C
  intro hE T locs X eT N
  subst hp
  obtain ⟨T', X', e', S⟩ := castY X hx hZ hown (hw _ w) eT I (g := mkF m pc Ls (.ref a :: st)) rfl rfl (hb hby hd)
  obtain ⟨u, o, h1, h2⟩ := K hE T' _ X' e' N
  exact ⟨u, o, S _ h1, h2⟩
theorem Walk.callS (C : Walk W l Z a0 tb own code ml rt nm R Q) (pc' : Nat) {idx : Nat} {y : MethodName} {yc : ByteArray} {ym : Nat} {yr : Option FieldType} {rm : Room} {as : List Value} {rest : List Value} {yQ : Option Value → Heap → Prop} {ps : List FieldType} {r : Option FieldType} (wd : Nat) (hd : decode code pc = .ok (.invokestatic idx, 3)) (hp : pc' = pc + 3) (w1 : Jvm.Cond.methodLink own idx y ∈ tb) (w2 : Jvm.Cond.static y ∈ tb) (w3 : Jvm.Cond.initialized y.cls ∈ tb) (w4 : Jvm.Cond.code y yc ym yr ∈ tb) (hy : y.cls ≠ "java/lang/invoke/MethodHandle" ∧ y.cls ≠ "java/lang/invoke/VarHandle") (con : Con l Z y yc ym yr rm as.toArray h yQ) (pd : parseMethodDescriptor y.desc = some ⟨ps, r⟩) (hlen : as.length = ps.length) (hls : Ls.size = ml) (hwd : (rest.map fun v => v.category).sum ≤ wd) (hf : rm.frames + 1 ≤ R.frames) (hl : wd + (ym + 11) + rm.locals ≤ R.locals) (hc : k + rm.cells ≤ R.cells) (hs : n + rm.slots ≤ R.slots) (hst : st = as.reverse ++ rest)
    (K : ∀ v h', yQ v h' → W h' (k + rm.cells) (n + rm.slots) pc' Ls (v.toList ++ rest)) : W h k n pc Ls st := by
  obtain ⟨p, e, s, m, args, below, meth, c, rfl, hx, hby, hml, hown, hrt', hlk, hZ, hnm, hw⟩ := C
  intro hE T locs X eT N
  subst hp
  obtain ⟨v, vm₁, ⟨T', L', k', n'⟩, -, X', P, S⟩ := Jvm.LawKit.callS X hx (y := y) hown (mvT hZ (hw _ w1)) (mvT hZ (hw _ w2)) (mvT hZ (hw _ w3)) (mvT hZ (hw _ w4)) hy (backOf (Q := fun v h L => yQ v h ∧ Ext Z.heap h ∧ Fr Z.heap.size L) (W := wd) (con hE []) hZ (hw _ w4) (hw _ w3) hf hl) (g := mkF m pc Ls st) rfl (by show Ls.size = _; rw [hls, hml]) (argsL := as) (rest := rest) (lenOf pd hlen) hst (by show 2 * 0 + _ ≤ _; omega) (hb hby hd) (fun _ _ => ⟨rfl, eT, hc, hs⟩)
  obtain ⟨Lc, ⟨hq, hE', hN⟩, l', y', z'⟩ := P
  dsimp only [Pt.U, Pt.locs, Pt.cells, Pt.slots] at X' l' y' z' S hq hE'
  subst l' y' z'
  obtain ⟨u, o, h1, h2⟩ := K v T'.heap hq hE' T' _ X' rfl (Fr.app N hN)
  exact ⟨u, o, S _ h1, h2⟩
theorem Walk.callV (C : Walk W l Z a0 tb own code ml rt nm R Q) (pc' : Nat) {idx : Nat} {a : Addr} {D : String} {x : MethodName} {y : MethodName} {yc : ByteArray} {ym : Nat} {yr : Option FieldType} {rm : Room} {as : List Value} {rest : List Value} {yQ : Option Value → Heap → Prop} {ps : List FieldType} {r : Option FieldType} (wd : Nat) (hd : decode code pc = .ok (.invokevirtual idx, 3)) (hp : pc' = pc + 3) (w1 : Jvm.Cond.methodLink own idx x ∈ tb) (w2 : Jvm.Cond.declares x ∈ tb) (w5 : Jvm.Cond.selects D x y ∈ tb) (nf : ∀ args s, (∀ d ∈ tb, d.before a0 Z = true) → Z.Warmed39 s.vm → (Jvm.Cond.selects D x y).before args s = true → NotFace s x) (w6 : Jvm.Cond.instanceMethod y ∈ tb) (w3 : Jvm.Cond.initialized y.cls ∈ tb) (w4 : Jvm.Cond.code y yc ym yr ∈ tb) (hy : x.cls ≠ "java/lang/invoke/MethodHandle" ∧ x.cls ≠ "java/lang/invoke/VarHandle") (E : Exa Z h a D) (con : Con l Z y yc ym yr rm (.ref a :: as).toArray h yQ) (pd : parseMethodDescriptor x.desc = some ⟨ps, r⟩) (hlen : as.length = ps.length) (hls : Ls.size = ml) (hwd : (rest.map fun v => v.category).sum ≤ wd) (hf : rm.frames + 1 ≤ R.frames) (hl : wd + (ym + 11) + rm.locals ≤ R.locals) (hc : k + rm.cells ≤ R.cells) (hs : n + rm.slots ≤ R.slots) (hst : st = as.reverse ++ .ref a :: rest)
    (K : ∀ v h', yQ v h' → W h' (k + rm.cells) (n + rm.slots) pc' Ls (v.toList ++ rest)) : W h k n pc Ls st := by
  obtain ⟨p, e, s, m, args, below, meth, c, rfl, hx, hby, hml, hown, hrt', hlk, hZ, hnm, hw⟩ := C
  intro hE T locs X eT N
  subst hp
  obtain ⟨cq, kq, q1, q2, q3⟩ := isOf (T := T) hZ eT E
  obtain ⟨v, vm₁, ⟨T', L', k', n'⟩, -, X', P, S⟩ := X.virtualBack hx (y := x) (z := y) hown (mvT hZ (hw _ w1)) (mvT hZ (hw _ w2)) (nf args s hw hZ (mvT hZ (hw _ w5))) (mvT hZ (hw _ w5)) (mvT hZ (hw _ w6)) hy (backOf (Q := fun v h L => yQ v h ∧ Ext Z.heap h ∧ Fr Z.heap.size L) (W := wd) (con hE []) hZ (hw _ w4) (hw _ w3) hf hl) q1 q3 (g := mkF m pc Ls st) rfl (by show Ls.size = _; rw [hls, hml]) (Steps.refl _) (argsL := as) (rest := rest) (lenOf pd hlen) hst (by show 2 * 0 + _ ≤ _; omega) (hb hby hd) (fun _ _ => ⟨rfl, eT, hc, hs⟩)
  obtain ⟨Lc, ⟨hq, hE', hN⟩, l', y', z'⟩ := P
  dsimp only [Pt.U, Pt.locs, Pt.cells, Pt.slots] at X' l' y' z' S hq hE'
  subst l' y' z'
  obtain ⟨u, o, h1, h2⟩ := K v T'.heap hq hE' T' _ X' rfl (Fr.app N hN)
  exact ⟨u, o, S.trans h1, h2⟩
theorem nfSelf {x : MethodName} {D : String} : ∀ args s, (∀ d ∈ tb, d.before a0 Z = true) → Z.Warmed39 s.vm → (Jvm.Cond.selects D x x).before args s = true → NotFace s x := fun _ _ _ _ q => notFace_of_selects q
theorem Walk.callI (C : Walk W l Z a0 tb own code ml rt nm R Q) (pc' : Nat) {idx : Nat} {a : Addr} {y : MethodName} {yc : ByteArray} {ym : Nat} {yr : Option FieldType} {rm : Room} {as : List Value} {rest : List Value} {yQ : Option Value → Heap → Prop} {ps : List FieldType} {r : Option FieldType} (wd : Nat) (hd : decode code pc = .ok (.invokespecial idx, 3)) (hp : pc' = pc + 3) (hy1 : y.name = "<init>") (hyr : yr = none) (w1 : Jvm.Cond.methodLink own idx y ∈ tb) (w6 : Jvm.Cond.instanceMethod y ∈ tb) (w3 : Jvm.Cond.initialized y.cls ∈ tb) (w4 : Jvm.Cond.code y yc ym yr ∈ tb) (hy : y.cls ≠ "java/lang/invoke/MethodHandle" ∧ y.cls ≠ "java/lang/invoke/VarHandle") (con : Con l Z y yc ym yr rm (.ref a :: as).toArray h yQ) (pd : parseMethodDescriptor y.desc = some ⟨ps, r⟩) (hlen : as.length = ps.length) (hls : Ls.size = ml) (hwd : (rest.map fun v => v.category).sum ≤ wd) (hf : rm.frames + 1 ≤ R.frames) (hl : wd + (ym + 11) + rm.locals ≤ R.locals) (hc : k + rm.cells ≤ R.cells) (hs : n + rm.slots ≤ R.slots) (hst : st = as.reverse ++ .ref a :: rest)
    (K : ∀ v h', yQ v h' → W h' (k + rm.cells) (n + rm.slots) pc' Ls (v.toList ++ rest)) : W h k n pc Ls st := by
  obtain ⟨p, e, s, m, args, below, meth, c, rfl, hx, hby, hml, hown, hrt', hlk, hZ, hnm, hw⟩ := C
  intro hE T locs X eT N
  subst hp
  subst hyr
  obtain ⟨v, vm₁, ⟨T', L', k', n'⟩, -, X', P, S⟩ := X.specialBack hx (y := y) hy1 hown (mvT hZ (hw _ w1)) (mvT hZ (hw _ w6)) (mvT hZ (hw _ w4)) hy (backOf (Q := fun v h L => yQ v h ∧ Ext Z.heap h ∧ Fr Z.heap.size L) (W := wd) (con hE []) hZ (hw _ w4) (hw _ w3) hf hl) (g := mkF m pc Ls st) rfl (by show Ls.size = _; rw [hls, hml]) (Steps.refl _) (a := a) (argsL := as) (rest := rest) (lenOf pd hlen) hst (by show 2 * 0 + _ ≤ _; omega) (hb hby hd) (fun _ _ => ⟨rfl, eT, hc, hs⟩)
  obtain ⟨Lc, ⟨hq, hE', hN⟩, l', y', z'⟩ := P
  dsimp only [Pt.U, Pt.locs, Pt.cells, Pt.slots] at X' l' y' z' S hq hE'
  subst l' y' z'
  obtain ⟨u, o, h1, h2⟩ := K v T'.heap hq hE' T' _ X' rfl (Fr.app N hN)
  exact ⟨u, o, S.trans h1, h2⟩
theorem Walk.callP (C : Walk W l Z a0 tb own code ml rt nm R Q) (pc' : Nat) {idx : Nat} {a : Addr} {D : String} {y : MethodName} {yc : ByteArray} {ym : Nat} {yr : Option FieldType} {rm : Room} {as : List Value} {rest : List Value} {yQ : Option Value → Heap → Prop} {ps : List FieldType} {r : Option FieldType} (wd : Nat) (hd : decode code pc = .ok (.invokevirtual idx, 3)) (hp : pc' = pc + 3) (w1 : Jvm.Cond.methodLink own idx y ∈ tb) (w5 : Jvm.Cond.selects y.cls y y ∈ tb) (w7 : Jvm.Cond.privateMethod y ∈ tb) (w6 : Jvm.Cond.instanceMethod y ∈ tb) (w3 : Jvm.Cond.initialized y.cls ∈ tb) (w4 : Jvm.Cond.code y yc ym yr ∈ tb) (hy : y.cls ≠ "java/lang/invoke/MethodHandle" ∧ y.cls ≠ "java/lang/invoke/VarHandle") (E : Exa Z h a D) (con : Con l Z y yc ym yr rm (.ref a :: as).toArray h yQ) (pd : parseMethodDescriptor y.desc = some ⟨ps, r⟩) (hlen : as.length = ps.length) (hls : Ls.size = ml) (hwd : (rest.map fun v => v.category).sum ≤ wd) (hf : rm.frames + 1 ≤ R.frames) (hl : wd + (ym + 11) + rm.locals ≤ R.locals) (hc : k + rm.cells ≤ R.cells) (hs : n + rm.slots ≤ R.slots) (hst : st = as.reverse ++ .ref a :: rest)
    (K : ∀ v h', yQ v h' → W h' (k + rm.cells) (n + rm.slots) pc' Ls (v.toList ++ rest)) : W h k n pc Ls st := by
  obtain ⟨p, e, s, m, args, below, meth, c, rfl, hx, hby, hml, hown, hrt', hlk, hZ, hnm, hw⟩ := C
  intro hE T locs X eT N
  subst hp
  obtain ⟨cell, hcl, hob⟩ := E.cell
  obtain ⟨v, vm₁, ⟨T', L', k', n'⟩, -, X', P, S⟩ := X.privateBack hx (y := y) hown (mvT hZ (hw _ w1)) (mvT hZ (hw _ w6)) (mvT hZ (hw _ w5)) (Cond.privateMethod_at (mvP (args := args) hZ (hw _ w7))) (mvT hZ (hw _ w4)) hy (backOf (Q := fun v h L => yQ v h ∧ Ext Z.heap h ∧ Fr Z.heap.size L) (W := wd) (con hE []) hZ (hw _ w4) (hw _ w3) hf hl) (g := mkF m pc Ls st) rfl (by show Ls.size = _; rw [hls, hml]) (Steps.refl _) (a := a) (by rw [eT]; exact hcl) hob (argsL := as) (rest := rest) (lenOf pd hlen) hst (by show 2 * 0 + _ ≤ _; omega) (hb hby hd) (fun _ _ => ⟨rfl, eT, hc, hs⟩)
  obtain ⟨Lc, ⟨hq, hE', hN⟩, l', y', z'⟩ := P
  dsimp only [Pt.U, Pt.locs, Pt.cells, Pt.slots] at X' l' y' z' S hq hE'
  subst l' y' z'
  obtain ⟨u, o, h1, h2⟩ := K v T'.heap hq hE' T' _ X' rfl (Fr.app N hN)
  exact ⟨u, o, S.trans h1, h2⟩
theorem Walk.callF (C : Walk W l Z a0 tb own code ml rt nm R Q) (pc' : Nat) {idx cnt : Nat} {a : Addr} {D : String} {x : MethodName} {y : MethodName} {yc : ByteArray} {ym : Nat} {yr : Option FieldType} {rm : Room} {as : List Value} {rest : List Value} {yQ : Option Value → Heap → Prop} {ps : List FieldType} {r : Option FieldType} (wd : Nat) (hd : decode code pc = .ok (.invokeinterface idx cnt, 5)) (hp : pc' = pc + 5) (w1 : Jvm.Cond.methodLink own idx x ∈ tb) (w2 : Jvm.Cond.declares x ∈ tb) (w7 : Jvm.Cond.interfaceMethod x.cls x.cls x.name x.desc ∈ tb) (w5 : Jvm.Cond.selects D x y ∈ tb) (w6 : Jvm.Cond.instanceMethod y ∈ tb) (w8 : Jvm.Cond.publicMethod y ∈ tb) (w9 : Jvm.Cond.unhidden D x.name x.desc ∈ tb) (w10 : Jvm.Cond.castable D x.cls ∈ tb) (hI : ((Jvm.Cond.interfaceMethod x.cls x.cls x.name x.desc).onTables && (Jvm.Cond.interfaceMethod x.cls x.cls x.name x.desc).keepsFace) = true) (w3 : Jvm.Cond.initialized y.cls ∈ tb) (w4 : Jvm.Cond.code y yc ym yr ∈ tb) (hy : x.cls ≠ "java/lang/invoke/MethodHandle" ∧ x.cls ≠ "java/lang/invoke/VarHandle") (E : Exa Z h a D) (con : Con l Z y yc ym yr rm (.ref a :: as).toArray h yQ) (pd : parseMethodDescriptor x.desc = some ⟨ps, r⟩) (hlen : as.length = ps.length) (hls : Ls.size = ml) (hwd : (rest.map fun v => v.category).sum ≤ wd) (hf : rm.frames + 1 ≤ R.frames) (hl : wd + (ym + 11) + rm.locals ≤ R.locals) (hc : k + rm.cells ≤ R.cells) (hs : n + rm.slots ≤ R.slots) (hst : st = as.reverse ++ .ref a :: rest)
    (K : ∀ v h', yQ v h' → W h' (k + rm.cells) (n + rm.slots) pc' Ls (v.toList ++ rest)) : W h k n pc Ls st := by
  obtain ⟨p, e, s, m, args, below, meth, c, rfl, hx, hby, hml, hown, hrt', hlk, hZ, hnm, hw⟩ := C
  intro hE T locs X eT N
  subst hp
  obtain ⟨cq, kq, q1, q2, q3⟩ := isOf (T := T) hZ eT E
  obtain ⟨v, vm₁, ⟨T', L', k', n'⟩, -, X', P, S⟩ := X.interfaceBack hx (xi := x) (y := y) hown (mvT hZ (hw _ w1)) (mvT hZ (hw _ w2)) (mvT hZ (hw _ w7) hI) (mvT hZ (hw _ w5)) (mvT hZ (hw _ w6)) (mvT hZ (hw _ w8)) (mvT hZ (hw _ w9)) (mvT hZ (hw _ w10)) hy (backOf (Q := fun v h L => yQ v h ∧ Ext Z.heap h ∧ Fr Z.heap.size L) (W := wd) (con hE []) hZ (hw _ w4) (hw _ w3) hf hl) q1 q2 q3 (g := mkF m pc Ls st) rfl (by show Ls.size = _; rw [hls, hml]) (Steps.refl _) (argsL := as) (rest := rest) (lenOf pd hlen) hst (by show 2 * 0 + _ ≤ _; omega) (hb hby hd) (fun _ _ => ⟨rfl, eT, hc, hs⟩)
  obtain ⟨Lc, ⟨hq, hE', hN⟩, l', y', z'⟩ := P
  dsimp only [Pt.U, Pt.locs, Pt.cells, Pt.slots] at X' l' y' z' S hq hE'
  subst l' y' z'
  obtain ⟨u, o, h1, h2⟩ := K v T'.heap hq hE' T' _ X' rfl (Fr.app N hN)
  exact ⟨u, o, S.trans h1, h2⟩
theorem Walk.instanceofT (C : Walk W l Z a0 tb own code ml rt nm R Q) (pc' : Nat) {idx : Nat} {D : String} {a : Addr} (hd : decode code pc = .ok (.instanceof idx, 3)) (hp : pc' = pc + 3) (w : Jvm.Cond.classLink own idx D ∈ tb) (I : Ins Z h a D true) (K : W h k n pc' Ls (.int 1 :: st)) : W h k n pc Ls (.ref a :: st) := by
  obtain ⟨p, e, s, m, args, below, meth, c, rfl, hx, hby, hml, hown, hrt', hlk, hZ, hnm, hw⟩ := C
  intro hE T locs X eT N
  subst hp
  obtain ⟨T', X', e', S⟩ := instY X hx hZ hown (hw _ w) eT I (g := mkF m pc Ls (.ref a :: st)) rfl rfl (hb hby hd)
  obtain ⟨u, o, h1, h2⟩ := K hE T' _ X' e' N
  exact ⟨u, o, S _ h1, h2⟩
theorem Ro.al {a : Addr} {D : String} {cA : ClassId} {vs : List Value} (A : Ro Z h a D cA vs) : Al Z h a (.object D) vs := by obtain ⟨c, A1, -, A3⟩ := A; exact ⟨c, A1, A3⟩
theorem Walk.aaloadA (C : Walk W l Z a0 tb own code ml rt nm R Q) (pc' : Nat) {a : Addr} {ty : FieldType} {vs : List Value} {j : Int32} (i : Nat) (v : Value) (hd : decode code pc = .ok (.aaload, 1)) (hp : pc' = pc + 1) (hty : ty.isReference = true) (A : Al Z h a ty vs) (hn : ¬ j < 0) (hi : j.toNatClampNeg = i) (hv : vs[i]? = some v)
    (K : W h k n pc' Ls (v :: st)) : W h k n pc Ls (.int j :: .ref a :: st) := by
  obtain ⟨p, e, s, m, args, below, meth, c, rfl, hx, hby, hml, hown, hrt', hlk, hZ, hnm, hw⟩ := C
  intro hE T locs X eT N
  subst hp
  obtain ⟨cl, A1, A3⟩ := A
  have hl : i < vs.length := (List.getElem?_eq_some_iff.mp hv).1
  have hj : ¬ (j < 0 ∨ cl.slots.size ≤ j.toNatClampNeg) := by rw [list_sz A3, hi]; exact fun q => q.elim hn (fun q => absurd hl (Nat.not_lt.mpr q))
  obtain ⟨u, o, h1, h2⟩ := K hE T _ X eT N
  exact ⟨u, o, X.aaload hx (by rw [eT]; exact A1.1) (State.isArrayOf_alike hZ.alike A1.2.1) hty A1.2.2 hj (by rw [hi, list_at A3]; exact hv) (g := mkF m pc Ls (.int j :: .ref a :: st)) rfl rfl (hb hby hd) _ h1, h2⟩
theorem Walk.clone (C : Walk W l Z a0 tb own code ml rt nm R Q) (pc' : Nat) {idx : Nat} {a : Addr} {ad : String} {cl : Cell} {ty : FieldType} (cap wd : Nat) (hd : decode code pc = .ok (.invokevirtual idx, 3)) (hp : pc' = pc + 3) (w1 : Jvm.Cond.methodLink own idx ⟨ad, "clone", "()Ljava/lang/Object;"⟩ ∈ tb) (w2 : Jvm.Cond.sameMethod ad "java/lang/Object" "clone" "()Ljava/lang/Object;" ∈ tb) (w3 : Jvm.Cond.native ⟨"java/lang/Object", "clone", "()Ljava/lang/Object;"⟩ ∈ tb) (w4 : Jvm.Cond.instanceMethod ⟨"java/lang/Object", "clone", "()Ljava/lang/Object;"⟩ ∈ tb) (w5 : Jvm.Cond.selects ad ⟨ad, "clone", "()Ljava/lang/Object;"⟩ ⟨"java/lang/Object", "clone", "()Ljava/lang/Object;"⟩ ∈ tb) (w6 : Jvm.Cond.castable ad "java/lang/Cloneable" ∈ tb)
    (A : Arr Z h a cl ty) (E : Exa Z h a ad) (F : FitC Z cl) (hls : Ls.size = ml) (hf : 1 ≤ R.frames) (hwd : (st.map fun v => v.category).sum ≤ wd) (hl : wd + 14 ≤ R.locals) (hcap : cl.slots.size ≤ cap) (hc : k + 1 ≤ R.cells) (hs : n + cap ≤ R.slots)
    (K : ∀ h', Ext h h' → Al Z h' h.size ty cl.slots.toList → Exa Z h' h.size ad → W h' (k + 1) (n + cap) pc' Ls (.ref h.size :: st)) : W h k n pc Ls (.ref a :: st) := by
  obtain ⟨p, e, s, m, args, below, meth, c, rfl, hx, hby, hml, hown, hrt', hlk, hZ, hnm, hw⟩ := C
  intro hE T locs X eT N
  subst hp
  obtain ⟨T', h', X', e', E', A', X2, S⟩ := cloneA X hx hZ hown (hw _ w1) (hw _ w2) (hw _ w3) (hw _ w4) (hw _ w5) (hw _ w6) eT A E F (g := mkF m pc Ls (.ref a :: st)) rfl (by show Ls.size = _; rw [hls, hml]) rfl (hb hby hd) hf (W := wd) (cap := cap) (by show 2 * 0 + _ ≤ _; omega) hl hcap hc hs
  obtain ⟨u, o, h1, h2⟩ := K h' E' ⟨_, A', rfl⟩ X2 (Old.ext (n0 := Z.heap.size) ⟨rfl, hE⟩ E').2 T' _ X' e' N
  exact ⟨u, o, S _ h1, h2⟩
end Rules
end Jvm.Own

namespace Jvm.Pilot.@@N@@
open Jvm Jvm.ClassFile Sem Op Lib Jvm.Free Jvm.Stand Jvm.LawKit Jvm.RoadKit Bundle Jvm.Own Jvm.Pilot.@@N@@.Jvm.D
theorem tw (i : Nat) {d : Jvm.Cond} (h : tables_1[i]? = some d := by rfl) : d ∈ tables_1 := List.mem_of_getElem? h
theorem d1_0 : decode method_2_code 0 = .ok (.iload 4, 2) := by decide +kernel
theorem d1_2 : decode method_2_code 2 = .ok (.bipush 8, 2) := by decide +kernel
theorem d1_4 : decode method_2_code 4 = .ok (.if_icmp .ge 13, 3) := by decide +kernel
theorem d1_7 : decode method_2_code 7 = .ok (.lload_n 0, 1) := by decide +kernel
theorem d1_8 : decode method_2_code 8 = .ok (.bipush 8, 2) := by decide +kernel
theorem d1_10 : decode method_2_code 10 = .ok (.iload 4, 2) := by decide +kernel
theorem d1_12 : decode method_2_code 12 = .ok (.imul, 1) := by decide +kernel
theorem d1_13 : decode method_2_code 13 = .ok (.lushr, 1) := by decide +kernel
theorem d1_14 : decode method_2_code 14 = .ok (.l2i, 1) := by decide +kernel
theorem d1_15 : decode method_2_code 15 = .ok (.i2b, 1) := by decide +kernel
theorem d1_16 : decode method_2_code 16 = .ok (.ireturn, 1) := by decide +kernel
theorem d1_17 : decode method_2_code 17 = .ok (.lload_n 2, 1) := by decide +kernel
theorem d1_18 : decode method_2_code 18 = .ok (.bipush 8, 2) := by decide +kernel
theorem d1_20 : decode method_2_code 20 = .ok (.iload 4, 2) := by decide +kernel
theorem d1_22 : decode method_2_code 22 = .ok (.bipush 8, 2) := by decide +kernel
theorem d1_24 : decode method_2_code 24 = .ok (.isub, 1) := by decide +kernel
theorem d1_25 : decode method_2_code 25 = .ok (.imul, 1) := by decide +kernel
theorem d1_26 : decode method_2_code 26 = .ok (.lushr, 1) := by decide +kernel
theorem d1_27 : decode method_2_code 27 = .ok (.l2i, 1) := by decide +kernel
theorem d1_28 : decode method_2_code 28 = .ok (.i2b, 1) := by decide +kernel
theorem d1_29 : decode method_2_code 29 = .ok (.ireturn, 1) := by decide +kernel
theorem pn1 : plainFor (⟨"com/example/shroud/shroud/dicom/VrSwapByteOrderPinLaw", "byteOf", "(JJI)B"⟩ : MethodName) = true := plainFor_of_name (by first | (simp [plainName, overriddenIn]; done) | decide +kernel)
theorem pd1 : parseMethodDescriptor "(JJI)B" = some ⟨[.long, .long, .int], some .byte⟩ := by decide +kernel
theorem d2_0 : decode prog_65_method_9_code 0 = .ok (.aload_n 0, 1) := by decide +kernel
theorem d2_1 : decode prog_65_method_9_code 1 = .ok (.invokevirtual 174, 3) := by decide +kernel
theorem d2_4 : decode prog_65_method_9_code 4 = .ok (.ifCond .ne 4, 3) := by decide +kernel
theorem d2_7 : decode prog_65_method_9_code 7 = .ok (.return_, 1) := by decide +kernel
theorem d2_8 : decode prog_65_method_9_code 8 = .ok (.iload_n 2, 1) := by decide +kernel
theorem d2_9 : decode prog_65_method_9_code 9 = .ok (.istore 4, 2) := by decide +kernel
theorem d2_11 : decode prog_65_method_9_code 11 = .ok (.iload 4, 2) := by decide +kernel
theorem d2_13 : decode prog_65_method_9_code 13 = .ok (.aload_n 0, 1) := by decide +kernel
theorem d2_14 : decode prog_65_method_9_code 14 = .ok (.getfield 133, 3) := by decide +kernel
theorem d2_17 : decode prog_65_method_9_code 17 = .ok (.iadd, 1) := by decide +kernel
theorem d2_18 : decode prog_65_method_9_code 18 = .ok (.iload_n 3, 1) := by decide +kernel
theorem d2_19 : decode prog_65_method_9_code 19 = .ok (.if_icmp .gt 66, 3) := by decide +kernel
theorem d2_22 : decode prog_65_method_9_code 22 = .ok (.iload 4, 2) := by decide +kernel
theorem d2_24 : decode prog_65_method_9_code 24 = .ok (.istore 5, 2) := by decide +kernel
theorem d2_26 : decode prog_65_method_9_code 26 = .ok (.iload 4, 2) := by decide +kernel
theorem d2_28 : decode prog_65_method_9_code 28 = .ok (.aload_n 0, 1) := by decide +kernel
theorem d2_29 : decode prog_65_method_9_code 29 = .ok (.getfield 133, 3) := by decide +kernel
theorem d2_32 : decode prog_65_method_9_code 32 = .ok (.iadd, 1) := by decide +kernel
theorem d2_33 : decode prog_65_method_9_code 33 = .ok (.iconst 1, 1) := by decide +kernel
theorem d2_34 : decode prog_65_method_9_code 34 = .ok (.isub, 1) := by decide +kernel
theorem d2_35 : decode prog_65_method_9_code 35 = .ok (.istore 6, 2) := by decide +kernel
theorem d2_37 : decode prog_65_method_9_code 37 = .ok (.iload 5, 2) := by decide +kernel
theorem d2_39 : decode prog_65_method_9_code 39 = .ok (.iload 6, 2) := by decide +kernel
theorem d2_41 : decode prog_65_method_9_code 41 = .ok (.if_icmp .ge 32, 3) := by decide +kernel
theorem d2_44 : decode prog_65_method_9_code 44 = .ok (.aload_n 1, 1) := by decide +kernel
theorem d2_45 : decode prog_65_method_9_code 45 = .ok (.iload 5, 2) := by decide +kernel
theorem d2_47 : decode prog_65_method_9_code 47 = .ok (.baload, 1) := by decide +kernel
theorem d2_48 : decode prog_65_method_9_code 48 = .ok (.istore 7, 2) := by decide +kernel
theorem d2_50 : decode prog_65_method_9_code 50 = .ok (.aload_n 1, 1) := by decide +kernel
theorem d2_51 : decode prog_65_method_9_code 51 = .ok (.iload 5, 2) := by decide +kernel
theorem d2_53 : decode prog_65_method_9_code 53 = .ok (.aload_n 1, 1) := by decide +kernel
theorem d2_54 : decode prog_65_method_9_code 54 = .ok (.iload 6, 2) := by decide +kernel
theorem d2_56 : decode prog_65_method_9_code 56 = .ok (.baload, 1) := by decide +kernel
theorem d2_57 : decode prog_65_method_9_code 57 = .ok (.bastore, 1) := by decide +kernel
theorem d2_58 : decode prog_65_method_9_code 58 = .ok (.aload_n 1, 1) := by decide +kernel
theorem d2_59 : decode prog_65_method_9_code 59 = .ok (.iload 6, 2) := by decide +kernel
theorem d2_61 : decode prog_65_method_9_code 61 = .ok (.iload 7, 2) := by decide +kernel
theorem d2_63 : decode prog_65_method_9_code 63 = .ok (.bastore, 1) := by decide +kernel
theorem d2_64 : decode prog_65_method_9_code 64 = .ok (.iinc 5 1, 3) := by decide +kernel
theorem d2_67 : decode prog_65_method_9_code 67 = .ok (.iinc 6 (-1), 3) := by decide +kernel
theorem d2_70 : decode prog_65_method_9_code 70 = .ok (.goto (-33), 3) := by decide +kernel
theorem d2_73 : decode prog_65_method_9_code 73 = .ok (.iload 4, 2) := by decide +kernel
theorem d2_75 : decode prog_65_method_9_code 75 = .ok (.aload_n 0, 1) := by decide +kernel
theorem d2_76 : decode prog_65_method_9_code 76 = .ok (.getfield 133, 3) := by decide +kernel
theorem d2_79 : decode prog_65_method_9_code 79 = .ok (.iadd, 1) := by decide +kernel
theorem d2_80 : decode prog_65_method_9_code 80 = .ok (.istore 4, 2) := by decide +kernel
theorem d2_82 : decode prog_65_method_9_code 82 = .ok (.goto (-71), 3) := by decide +kernel
theorem d2_85 : decode prog_65_method_9_code 85 = .ok (.return_, 1) := by decide +kernel
theorem pn2 : plainFor (⟨"com/example/shroud/shroud/dicom/Vr", "swapByteOrder", "([BII)V"⟩ : MethodName) = true := plainFor_of_name (by first | (simp [plainName, overriddenIn]; done) | decide +kernel)
theorem pd2 : parseMethodDescriptor "([BII)V" = some ⟨[(.array .byte), .int, .int], none⟩ := by decide +kernel
theorem d3_0 : decode prog_65_method_7_code 0 = .ok (.aload_n 0, 1) := by decide +kernel
theorem d3_1 : decode prog_65_method_7_code 1 = .ok (.getfield 133, 3) := by decide +kernel
theorem d3_4 : decode prog_65_method_7_code 4 = .ok (.iconst 1, 1) := by decide +kernel
theorem d3_5 : decode prog_65_method_7_code 5 = .ok (.if_icmp .le 7, 3) := by decide +kernel
theorem d3_8 : decode prog_65_method_7_code 8 = .ok (.iconst 1, 1) := by decide +kernel
theorem d3_9 : decode prog_65_method_7_code 9 = .ok (.goto 4, 3) := by decide +kernel
theorem d3_12 : decode prog_65_method_7_code 12 = .ok (.iconst 0, 1) := by decide +kernel
theorem d3_13 : decode prog_65_method_7_code 13 = .ok (.ireturn, 1) := by decide +kernel
theorem pn3 : plainFor (⟨"com/example/shroud/shroud/dicom/Vr", "hasByteOrder", "()Z"⟩ : MethodName) = true := plainFor_of_name (by first | (simp [plainName, overriddenIn]; done) | decide +kernel)
theorem pd3 : parseMethodDescriptor "()Z" = some ⟨[], some .boolean⟩ := by decide +kernel
theorem d4_0 : decode method_3_code 0 = .ok (.iload 4, 2) := by decide +kernel
theorem d4_2 : decode method_3_code 2 = .ok (.iload_n 1, 1) := by decide +kernel
theorem d4_3 : decode method_3_code 3 = .ok (.if_icmp .lt 9, 3) := by decide +kernel
theorem d4_6 : decode method_3_code 6 = .ok (.iload 4, 2) := by decide +kernel
theorem d4_8 : decode method_3_code 8 = .ok (.iload_n 2, 1) := by decide +kernel
theorem d4_9 : decode method_3_code 9 = .ok (.if_icmp .lt 8, 3) := by decide +kernel
theorem d4_12 : decode method_3_code 12 = .ok (.aload_n 0, 1) := by decide +kernel
theorem d4_13 : decode method_3_code 13 = .ok (.iload 4, 2) := by decide +kernel
theorem d4_15 : decode method_3_code 15 = .ok (.baload, 1) := by decide +kernel
theorem d4_16 : decode method_3_code 16 = .ok (.ireturn, 1) := by decide +kernel
theorem d4_17 : decode method_3_code 17 = .ok (.iload 4, 2) := by decide +kernel
theorem d4_19 : decode method_3_code 19 = .ok (.iload_n 1, 1) := by decide +kernel
theorem d4_20 : decode method_3_code 20 = .ok (.isub, 1) := by decide +kernel
theorem d4_21 : decode method_3_code 21 = .ok (.iload_n 3, 1) := by decide +kernel
theorem d4_22 : decode method_3_code 22 = .ok (.irem, 1) := by decide +kernel
theorem d4_23 : decode method_3_code 23 = .ok (.istore 5, 2) := by decide +kernel
theorem d4_25 : decode method_3_code 25 = .ok (.aload_n 0, 1) := by decide +kernel
theorem d4_26 : decode method_3_code 26 = .ok (.iload 4, 2) := by decide +kernel
theorem d4_28 : decode method_3_code 28 = .ok (.iload 5, 2) := by decide +kernel
theorem d4_30 : decode method_3_code 30 = .ok (.isub, 1) := by decide +kernel
theorem d4_31 : decode method_3_code 31 = .ok (.iload_n 3, 1) := by decide +kernel
theorem d4_32 : decode method_3_code 32 = .ok (.iadd, 1) := by decide +kernel
theorem d4_33 : decode method_3_code 33 = .ok (.iconst 1, 1) := by decide +kernel
theorem d4_34 : decode method_3_code 34 = .ok (.isub, 1) := by decide +kernel
theorem d4_35 : decode method_3_code 35 = .ok (.iload 5, 2) := by decide +kernel
theorem d4_37 : decode method_3_code 37 = .ok (.isub, 1) := by decide +kernel
theorem d4_38 : decode method_3_code 38 = .ok (.baload, 1) := by decide +kernel
theorem d4_39 : decode method_3_code 39 = .ok (.ireturn, 1) := by decide +kernel
theorem pn4 : plainFor (⟨"com/example/shroud/shroud/dicom/VrSwapByteOrderPinLaw", "expected", "([BIIII)B"⟩ : MethodName) = true := plainFor_of_name (by first | (simp [plainName, overriddenIn]; done) | decide +kernel)
theorem pd4 : parseMethodDescriptor "([BIIII)B" = some ⟨[(.array .byte), .int, .int, .int, .int], some .byte⟩ := by decide +kernel
theorem pn0 : plainFor x = true := plainFor_of_name (by first | (simp [x, plainName, overriddenIn]; done) | decide +kernel)
/-! plain numbers -/
theorem oI {x : Nat} (h : x < 2 ^ 31) : (Int32.ofNat x).toInt = x := Int32.toInt_ofNat_of_lt h
theorem o_lt {x y : Nat} (hx : x < 2 ^ 31) (hy : y < 2 ^ 31) : Int32.ofNat x < Int32.ofNat y ↔ x < y := by rw [Int32.lt_iff_toInt_lt, oI hx, oI hy]; omega
theorem o_add (x y : Nat) : Int32.ofNat x + Int32.ofNat y = Int32.ofNat (x + y) := (Int32.ofNat_add x y).symm
theorem o_mul (x y : Nat) : Int32.ofNat x * Int32.ofNat y = Int32.ofNat (x * y) := (Int32.ofNat_mul x y).symm
theorem bm {n : Int} (h : -2147483648 ≤ n) (h' : n < 2147483648) : n.bmod (2 ^ 32) = n := by rw [Int.bmod_def]; omega
theorem o_sub {x y : Nat} (hx : x < 2 ^ 31) (h : y ≤ x) : Int32.ofNat x - Int32.ofNat y = Int32.ofNat (x - y) := by
  apply Int32.toInt_inj.mp
  rw [Int32.toInt_sub, oI hx, oI (show y < 2 ^ 31 by omega), oI (show x - y < 2 ^ 31 by omega), bm (by omega) (by omega)]; omega
theorem o_nn {x : Nat} (h : x < 2 ^ 31) : ¬ Int32.ofNat x < 0 := by
  have e : (0 : Int32).toInt = 0 := rfl
  rw [Int32.lt_iff_toInt_lt, oI h, e]; omega
theorem o_cl {x : Nat} (h : x < 2 ^ 31) : (Int32.ofNat x).toNatClampNeg = x := clamp_of rfl h
theorem o_mod {x y : Nat} (hx : x < 2 ^ 31) (hy : y < 2 ^ 31) : Int32.ofNat x % Int32.ofNat y = Int32.ofNat (x % y) := by
  apply Int32.toInt_inj.mp
  have hm : x % y ≤ x := Nat.mod_le x y
  rw [Int32.toInt_mod, oI hx, oI hy, oI (show x % y < 2 ^ 31 by omega)]; exact (Int.ofNat_tmod x y).symm
theorem o_div {x y : Nat} (hx : x < 2 ^ 31) (hy : y < 2 ^ 31) : Int32.ofNat x / Int32.ofNat y = Int32.ofNat (x / y) := by
  apply Int32.toInt_inj.mp
  have hm : x / y ≤ x := Nat.div_le_self x y
  have ht : ((x : Int).tdiv (y : Int)) = ((x / y : Nat) : Int) := (Int.ofNat_tdiv x y).symm
  rw [Int32.toInt_div, oI hx, oI hy, oI (show x / y < 2 ^ 31 by omega), ht]
  generalize x / y = q at hm ⊢
  exact bm (by omega) (by omega)
theorem o_ne {x : Nat} (h : x < 2 ^ 31) (h0 : x ≠ 0) : Int32.ofNat x ≠ 0 := fun q => by
  have r := congrArg Int32.toInt q
  have e : (0 : Int32).toInt = 0 := rfl
  rw [oI h, e] at r; omega
theorem rem17 (p : Int32) : ∃ i : Nat, i < 17 ∧ (p &&& (2147483647 : Int32)) % (17 : Int32) = Int32.ofNat i := by
  have h1 := c_and p (2147483647 : Int32) (by decide)
  have h2 := (c_irem (p &&& (2147483647 : Int32)) (17 : Int32) 17 rfl).1 h1.1
  generalize (p &&& (2147483647 : Int32)) % (17 : Int32) = r at h2 ⊢
  refine ⟨r.toInt.toNat, by omega, Int32.toInt_inj.mp ?_⟩
  rw [Int32.toInt_ofNat_of_lt (by omega)]; omega
theorem and7 (p : Int32) : ∃ i : Nat, i < 8 ∧ p &&& (7 : Int32) = Int32.ofNat i := by
  have h1 := c_and p (7 : Int32) (by decide)
  have e : (7 : Int32).toInt = 7 := rfl
  rw [e] at h1
  generalize p &&& (7 : Int32) = r at h1 ⊢
  refine ⟨r.toInt.toNat, by omega, Int32.toInt_inj.mp ?_⟩
  rw [Int32.toInt_ofNat_of_lt (by omega)]; omega
theorem byte_nar (x : Int32) : nar .byte x.toInt8.toInt32 = x.toInt8.toInt32 := by
  show x.toInt8.toInt32.toInt8.toInt32 = x.toInt8.toInt32
  simp
/-! the plain law: words reversed in place -/
def sw1 {α : Type} (i j : Nat) (vs : List α) : List α := match vs[i]?, vs[j]? with
  | some x, some y => (vs.set i y).set j x
  | _, _ => vs
def innF {α : Type} : Nat → Nat → Nat → List α → List α
  | 0, _, _, vs => vs
  | d + 1, i, j, vs => if i < j then innF d (i + 1) (j - 1) (sw1 i j vs) else vs
def outF {α : Type} : Nat → Nat → Nat → Nat → List α → List α
  | 0, _, _, _, vs => vs
  | n + 1, w, p, t, vs => if p + w ≤ t then outF n w (p + w) t (innF w p (p + w - 1) vs) else vs
def perm (f e w k : Nat) : Nat := if k < f ∨ e ≤ k then k else k - (k - f) % w + (w - 1 - (k - f) % w)
theorem sw1_map {α β : Type} (g : α → β) (i j : Nat) (vs : List α) : sw1 i j (vs.map g) = (sw1 i j vs).map g := by
  unfold sw1
  rw [List.getElem?_map, List.getElem?_map]
  cases vs[i]? <;> cases vs[j]? <;> simp [List.map_set]
theorem innF_map {α β : Type} (g : α → β) : ∀ (d i j : Nat) (vs : List α), innF d i j (vs.map g) = (innF d i j vs).map g
  | 0, _, _, _ => rfl
  | d + 1, i, j, vs => by
    unfold innF
    split
    · rw [sw1_map, innF_map g d]
    · rfl
theorem outF_map {α β : Type} (g : α → β) : ∀ (n w p t : Nat) (vs : List α), outF n w p t (vs.map g) = (outF n w p t vs).map g
  | 0, _, _, _, _ => rfl
  | n + 1, w, p, t, vs => by
    unfold outF
    split
    · rw [innF_map, outF_map g n]
    · rfl
theorem sw1_len {α : Type} (i j : Nat) (vs : List α) : (sw1 i j vs).length = vs.length := by
  unfold sw1
  split <;> simp
theorem innF_len {α : Type} : ∀ (d i j : Nat) (vs : List α), (innF d i j vs).length = vs.length
  | 0, _, _, _ => rfl
  | d + 1, i, j, vs => by
    unfold innF
    split
    · rw [innF_len d, sw1_len]
    · rfl
theorem law2 : ∀ f t : Fin 17, outF 17 2 f.1 t.1 (List.range 16) = (List.range 16).map (perm f.1 (f.1 + (t.1 - f.1) / 2 * 2) 2) := by decide +kernel
theorem law4 : ∀ f t : Fin 17, outF 17 4 f.1 t.1 (List.range 16) = (List.range 16).map (perm f.1 (f.1 + (t.1 - f.1) / 4 * 4) 4) := by decide +kernel
theorem law8 : ∀ f t : Fin 17, outF 17 8 f.1 t.1 (List.range 16) = (List.range 16).map (perm f.1 (f.1 + (t.1 - f.1) / 8 * 8) 8) := by decide +kernel
theorem law_all {w f t : Nat} (hw : w = 2 ∨ w = 4 ∨ w = 8) (hf : f < 17) (ht : t < 17) : outF 17 w f t (List.range 16) = (List.range 16).map (perm f (f + (t - f) / w * w) w) := by
  rcases hw with rfl | rfl | rfl
  · exact law2 ⟨f, hf⟩ ⟨t, ht⟩
  · exact law4 ⟨f, hf⟩ ⟨t, ht⟩
  · exact law8 ⟨f, hf⟩ ⟨t, ht⟩
theorem perm_one (f e k : Nat) : perm f e 1 k = k := by unfold perm; split <;> omega
theorem perm_lt {w f t k : Nat} (hw : w = 1 ∨ w = 2 ∨ w = 4 ∨ w = 8) (hf : f < 17) (ht : t < 17) (hk : k < 16) : perm f (f + (t - f) / w * w) w k < 16 := by
  unfold perm; rcases hw with rfl | rfl | rfl | rfl <;> split <;> omega
def bt (a b : Int64) (k : Nat) : Int32 := if k < 8 then (XT.ushrL a ((8 : Int32) * Int32.ofNat k)).toInt32.toInt8.toInt32 else (XT.ushrL b ((8 : Int32) * (Int32.ofNat k - (8 : Int32)))).toInt32.toInt8.toInt32
theorem bt_nar (a b : Int64) (k : Nat) : nar .byte (bt a b k) = bt a b k := by unfold bt; split <;> exact byte_nar _
set_option maxRecDepth 65536 in
set_option maxHeartbeats 40000000 in
theorem byteOf (l : Launch) (Z : State) (a0' : Array Value) (hw : ∀ d ∈ tables_1, d.before a0' Z = true) (h : Heap) (a b : Int64) (k : Nat) (hk : k < 16) :
    Con l Z (⟨"com/example/shroud/shroud/dicom/VrSwapByteOrderPinLaw", "byteOf", "(JJI)B"⟩ : MethodName) method_2_code 5 (some .byte) ⟨0, 0, 0, 0⟩ #[.long a, .long b, .int (Int32.ofNat k)] h (Same (some (.int (bt a b k))) h) := by
  refine Con.of (Ls := #[.val (.long a), .second, .val (.long b), .second, .val (.int (Int32.ofNat k))]) hw pn1 (fun m => by first | (simp [entryFrame, mkF, argsToLocals, Value.category, maxLocals]; done) | rfl) fun W C => ?_
  refine C.kept fun hE => ?_
  have z0 : Z.heap.size ≤ h.size := hE.1
  have e8 : Int32.ofNat 8 = (8 : Int32) := rfl
  have hlt := o_lt (x := k) (y := 8) (by omega) (by omega)
  rw [e8] at hlt
  by_cases hc : k < 8
  · have q := hlt.mpr hc
    refine C.iload 2 d1_0 rfl rfl ?_
    refine C.bipush 4 (8 : Int32) d1_2 rfl rfl ?_
    refine C.icmpF 7 d1_4 rfl (tlt q).2.1 ?_
    refine C.lloadN 8 d1_7 rfl rfl ?_
    refine C.bipush 10 (8 : Int32) d1_8 rfl rfl ?_
    refine C.iload 12 d1_10 rfl rfl ?_
    refine C.imul 13 d1_12 rfl ?_
    refine C.lushr 14 d1_13 rfl ?_
    refine C.l2i 15 d1_14 rfl ?_
    refine C.i2b 16 d1_15 rfl ?_
    exact C.retI .byte d1_16 rfl (by simp) (byte_nar _) (by decide) (by decide) ⟨by rw [bt, if_pos hc], rfl⟩
  · have q := fun z => hc (hlt.mp z)
    refine C.iload 2 d1_0 rfl rfl ?_
    refine C.bipush 4 (8 : Int32) d1_2 rfl rfl ?_
    refine C.icmpT 17 d1_4 rfl (flt q).2.1 ?_
    refine C.lloadN 18 d1_17 rfl rfl ?_
    refine C.bipush 20 (8 : Int32) d1_18 rfl rfl ?_
    refine C.iload 22 d1_20 rfl rfl ?_
    refine C.bipush 24 (8 : Int32) d1_22 rfl rfl ?_
    refine C.isub 25 d1_24 rfl ?_
    refine C.imul 26 d1_25 rfl ?_
    refine C.lushr 27 d1_26 rfl ?_
    refine C.l2i 28 d1_27 rfl ?_
    refine C.i2b 29 d1_28 rfl ?_
    exact C.retI .byte d1_29 rfl (by simp) (byte_nar _) (by decide) (by decide) ⟨by rw [bt, if_neg hc], rfl⟩
set_option maxRecDepth 65536 in
set_option maxHeartbeats 40000000 in
theorem hb_t (l : Launch) (Z : State) (a0' : Array Value) (hw : ∀ d ∈ tables_1, d.before a0' Z = true) (h : Heap) (a : Addr) (z : Int32) (F : Fld Z Z.heap a "com/example/shroud/shroud/dicom/Vr" "wordSize" "I" (.int z)) (hz : (1 : Int32) < z) :
    Con l Z (⟨"com/example/shroud/shroud/dicom/Vr", "hasByteOrder", "()Z"⟩ : MethodName) prog_65_method_7_code 1 (some .boolean) ⟨0, 0, 0, 0⟩ #[.ref a] h (Same (some (.int (1 : Int32))) h) := by
  refine Con.of (Ls := #[.val (.ref a)]) hw pn3 (fun m => by first | (simp [entryFrame, mkF, argsToLocals, Value.category, maxLocals]; done) | rfl) fun W C => ?_
  refine C.kept fun hE => ?_
  have z0 : Z.heap.size ≤ h.size := hE.1
  refine C.aloadN 1 d3_0 rfl rfl rfl ?_
  refine C.getfieldOld 4 d3_1 rfl (tw 19) Via.refl F ?_
  refine C.iconst 5 (1 : Int32) d3_4 rfl rfl ?_
  refine C.icmpF 8 d3_5 rfl (tlt hz).2.2.2 ?_
  refine C.iconst 9 (1 : Int32) d3_8 rfl rfl ?_
  refine C.goto 13 d3_9 rfl ?_
  exact C.retI .boolean d3_13 rfl (by simp) rfl (by decide) (by decide) ⟨rfl, rfl⟩
set_option maxRecDepth 65536 in
set_option maxHeartbeats 40000000 in
theorem hb_f (l : Launch) (Z : State) (a0' : Array Value) (hw : ∀ d ∈ tables_1, d.before a0' Z = true) (h : Heap) (a : Addr) (z : Int32) (F : Fld Z Z.heap a "com/example/shroud/shroud/dicom/Vr" "wordSize" "I" (.int z)) (hz : ¬ (1 : Int32) < z) :
    Con l Z (⟨"com/example/shroud/shroud/dicom/Vr", "hasByteOrder", "()Z"⟩ : MethodName) prog_65_method_7_code 1 (some .boolean) ⟨0, 0, 0, 0⟩ #[.ref a] h (Same (some (.int (0 : Int32))) h) := by
  refine Con.of (Ls := #[.val (.ref a)]) hw pn3 (fun m => by first | (simp [entryFrame, mkF, argsToLocals, Value.category, maxLocals]; done) | rfl) fun W C => ?_
  refine C.kept fun hE => ?_
  have z0 : Z.heap.size ≤ h.size := hE.1
  refine C.aloadN 1 d3_0 rfl rfl rfl ?_
  refine C.getfieldOld 4 d3_1 rfl (tw 19) Via.refl F ?_
  refine C.iconst 5 (1 : Int32) d3_4 rfl rfl ?_
  refine C.icmpT 12 d3_5 rfl (flt hz).2.2.2 ?_
  refine C.iconst 13 (0 : Int32) d3_12 rfl rfl ?_
  exact C.retI .boolean d3_13 rfl (by simp) rfl (by decide) (by decide) ⟨rfl, rfl⟩
theorem sw_at {α : Type} {i j : Nat} {vs : List α} {x y : α} (hx : vs[i]? = some x) (hy : vs[j]? = some y) : sw1 i j vs = (vs.set i y).set j x := by unfold sw1; rw [hx, hy]
def Bs (vs : List Value) : Prop := ∀ v ∈ vs, ∃ z : Int32, v = .int z ∧ nar .byte z = z
theorem Bs.at {vs : List Value} (B : Bs vs) {i : Nat} (h : i < vs.length) : ∃ z : Int32, vs[i]? = some (.int z) ∧ nar .byte z = z := by
  obtain ⟨z, e, q⟩ := B vs[i] (List.getElem_mem h)
  exact ⟨z, by rw [List.getElem?_eq_getElem h, e], q⟩
theorem Bs.set {vs : List Value} (B : Bs vs) (i : Nat) {z : Int32} (q : nar .byte z = z) : Bs (vs.set i (.int z)) := fun v hv => by
  rcases List.mem_or_eq_of_mem_set hv with h | h
  · exact B v h
  · exact ⟨z, h, q⟩
set_option maxRecDepth 65536 in
set_option maxHeartbeats 40000000 in
theorem sw_in {W : Wk} {l : Launch} {Z : State} {a0' : Array Value} {R : Room} {Q : Option Value → Heap → Prop} (C : Walk W l Z a0' tables_1 "com/example/shroud/shroud/dicom/Vr" prog_65_method_9_code 8 none "swapByteOrder" R Q) {ck cs : Nat} (vr arr : Addr) (za : Z.heap.size ≤ arr) (f t p : Nat) (hp : p < 17) :
    ∀ (d i j : Nat) (h : Heap) (vs : List Value) (s7 : Slot), j < i + d → i < 17 → j < 16 → vs.length = 16 → Bs vs → (s7 = .unset ∨ ∃ w : Value, s7 = .val w ∧ w.category = 1) → Al Z h arr .byte vs →
      (∀ (h' : Heap) (i' j' : Nat) (s7' : Slot), Keep h h' [arr] → Bs (innF d i j vs) → Al Z h' arr .byte (innF d i j vs) → (s7' = .unset ∨ ∃ w : Value, s7' = .val w ∧ w.category = 1) → W h' ck cs 73 #[.val (.ref vr), .val (.ref arr), .val (.int (Int32.ofNat (f))), .val (.int (Int32.ofNat (t))), .val (.int (Int32.ofNat (p))), .val (.int (Int32.ofNat (i'))), .val (.int (Int32.ofNat (j'))), s7'] []) → W h ck cs 37 #[.val (.ref vr), .val (.ref arr), .val (.int (Int32.ofNat (f))), .val (.int (Int32.ofNat (t))), .val (.int (Int32.ofNat (p))), .val (.int (Int32.ofNat (i))), .val (.int (Int32.ofNat (j))), s7] []
  | 0, i, j, h, vs, s7, hd, hi, hj, hl, B, h7, A, K => by
    have q : ¬ Int32.ofNat i < Int32.ofNat j := fun z => absurd ((o_lt (by omega) (by omega)).mp z) (by omega)
    refine C.iload 39 d2_37 rfl rfl ?_
    refine C.iload 41 d2_39 rfl rfl ?_
    refine C.icmpT 73 d2_41 rfl (flt q).2.1 ?_
    exact K h i j s7 (Keep.refl _ _) B A h7
  | d + 1, i, j, h, vs, s7, hd, hi, hj, hl, B, h7, A, K => by
    unfold innF at K
    by_cases hc : i < j
    · rw [if_pos hc] at K
      have q : Int32.ofNat i < Int32.ofNat j := (o_lt (by omega) (by omega)).mpr hc
      obtain ⟨x, ex, nx⟩ := B.at (i := i) (by omega)
      obtain ⟨y, ey, ny⟩ := B.at (i := j) (by omega)
      refine C.iload 39 d2_37 rfl rfl ?_
      refine C.iload 41 d2_39 rfl rfl ?_
      refine C.icmpF 44 d2_41 rfl (tlt q).2.1 ?_
      refine C.aloadN 45 d2_44 rfl rfl rfl ?_
      refine C.iload 47 d2_45 rfl rfl ?_
      refine C.baloadB 48 i (.int x) d2_47 rfl A (o_nn (by omega)) (o_cl (by omega)) ex ?_
      refine C.istore 50 #[.val (.ref vr), .val (.ref arr), .val (.int (Int32.ofNat (f))), .val (.int (Int32.ofNat (t))), .val (.int (Int32.ofNat (p))), .val (.int (Int32.ofNat (i))), .val (.int (Int32.ofNat (j))), .val (.int x)] d2_48 rfl (XS.store1 rfl h7 rfl) ?_
      refine C.aloadN 51 d2_50 rfl rfl rfl ?_
      refine C.iload 53 d2_51 rfl rfl ?_
      refine C.aloadN 54 d2_53 rfl rfl rfl ?_
      refine C.iload 56 d2_54 rfl rfl ?_
      refine C.baloadB 57 j (.int y) d2_56 rfl A (o_nn (by omega)) (o_cl (by omega)) ey ?_
      refine C.bastoreB 58 i y d2_57 rfl A za (o_nn (by omega)) (o_cl (by omega)) (by omega) ny ?_
      intro h1 W1 A1
      refine C.aloadN 59 d2_58 rfl rfl rfl ?_
      refine C.iload 61 d2_59 rfl rfl ?_
      refine C.iload 63 d2_61 rfl rfl ?_
      refine C.bastoreB 64 j x d2_63 rfl A1 za (o_nn (by omega)) (o_cl (by omega)) (by rw [List.length_set]; omega) nx ?_
      intro h2 W2 A2
      rw [← sw_at ex ey] at A2
      have B2 : Bs (sw1 i j vs) := by rw [sw_at ex ey]; exact (B.set i ny).set j nx
      refine C.iinc 67 #[.val (.ref vr), .val (.ref arr), .val (.int (Int32.ofNat (f))), .val (.int (Int32.ofNat (t))), .val (.int (Int32.ofNat (p))), .val (.int ((Int32.ofNat (i)) + (1 : Int32))), .val (.int (Int32.ofNat (j))), .val (.int x)] d2_64 rfl rfl rfl ?_
      refine C.iinc 70 #[.val (.ref vr), .val (.ref arr), .val (.int (Int32.ofNat (f))), .val (.int (Int32.ofNat (t))), .val (.int (Int32.ofNat (p))), .val (.int ((Int32.ofNat (i)) + (1 : Int32))), .val (.int ((Int32.ofNat (j)) + (-1 : Int32))), .val (.int x)] d2_67 rfl rfl rfl ?_
      have e1 : Int32.ofNat i + (1 : Int32) = Int32.ofNat (i + 1) := o_add i 1
      have e2 : Int32.ofNat j + (-1 : Int32) = Int32.ofNat (j - 1) := (Int32.sub_eq_add_neg ..).symm.trans (o_sub (y := 1) (by omega) (by omega))
      show W h2 ck cs 70 #[.val (.ref vr), .val (.ref arr), .val (.int (Int32.ofNat (f))), .val (.int (Int32.ofNat (t))), .val (.int (Int32.ofNat (p))), .val (.int ((Int32.ofNat (i)) + (1 : Int32))), .val (.int ((Int32.ofNat (j)) + (-1 : Int32))), .val (.int x)] []
      rw [e1, e2]
      refine C.goto 37 d2_70 rfl ?_
      exact sw_in C vr arr za f t p hp d (i + 1) (j - 1) h2 _ _ (by omega) (by omega) (by omega) (by rw [sw1_len]; exact hl) B2 (Or.inr ⟨_, rfl, rfl⟩) A2 (fun h' i' j' s7' K' B' A' q' => K h' i' j' s7' ((((Keep.refl h [arr]).wr W1 (Or.inl (List.mem_of_getElem? (i := 0) rfl))).wr W2 (Or.inl (List.mem_of_getElem? (i := 0) rfl))).trans K' (fun x hx => Or.inl hx)) B' A' q')
    · rw [if_neg hc] at K
      have q : ¬ Int32.ofNat i < Int32.ofNat j := fun z => hc ((o_lt (by omega) (by omega)).mp z)
      refine C.iload 39 d2_37 rfl rfl ?_
      refine C.iload 41 d2_39 rfl rfl ?_
      refine C.icmpT 73 d2_41 rfl (flt q).2.1 ?_
      exact K h i j s7 (Keep.refl _ _) B A h7
set_option maxRecDepth 65536 in
set_option maxHeartbeats 40000000 in
theorem sw_out {W : Wk} {l : Launch} {Z : State} {a0' : Array Value} {R : Room} {Q : Option Value → Heap → Prop} (C : Walk W l Z a0' tables_1 "com/example/shroud/shroud/dicom/Vr" prog_65_method_9_code 8 none "swapByteOrder" R Q) {ck cs : Nat} (vr arr : Addr) (za : Z.heap.size ≤ arr) (hck : ck ≤ R.cells) (hcs : cs ≤ R.slots) (f t w : Nat) (ht : t < 17) (hw2 : 2 ≤ w) (hw8 : w ≤ 8) (F : Fld Z Z.heap vr "com/example/shroud/shroud/dicom/Vr" "wordSize" "I" (.int (Int32.ofNat w))) :
    ∀ (d p : Nat) (h : Heap) (vs : List Value) (s5 s6 s7 : Slot), t < p + d → p < 17 → vs.length = 16 → Bs vs → (s5 = .unset ∨ ∃ w : Value, s5 = .val w ∧ w.category = 1) → (s6 = .unset ∨ ∃ w : Value, s6 = .val w ∧ w.category = 1) → (s7 = .unset ∨ ∃ w : Value, s7 = .val w ∧ w.category = 1) → Al Z h arr .byte vs →
      (∀ h' : Heap, Keep h h' [arr] → Al Z h' arr .byte (outF d w p t vs) → Q none h') → W h ck cs 11 #[.val (.ref vr), .val (.ref arr), .val (.int (Int32.ofNat (f))), .val (.int (Int32.ofNat (t))), .val (.int (Int32.ofNat (p))), s5, s6, s7] []
  | 0, p, h, vs, s5, s6, s7, hd, hp, hl, B, h5, h6, h7, A, K => by
    have q : Int32.ofNat t < Int32.ofNat (p + w) := (o_lt (by omega) (by omega)).mpr (by omega)
    refine C.iload 13 d2_11 rfl rfl ?_
    refine C.aloadN 14 d2_13 rfl rfl rfl ?_
    refine C.getfieldOld 17 d2_14 rfl (tw 19) Via.refl F ?_
    refine C.iadd 18 d2_17 rfl ?_
    rw [o_add]
    refine C.iloadN 19 d2_18 rfl rfl ?_
    refine C.icmpT 85 d2_19 rfl (tlt q).2.2.1 ?_
    exact C.ret0 d2_85 rfl hck hcs (K h (Keep.refl _ _) A)
  | d + 1, p, h, vs, s5, s6, s7, hd, hp, hl, B, h5, h6, h7, A, K => by
    unfold outF at K
    by_cases hc : p + w ≤ t
    · rw [if_pos hc] at K
      have q : ¬ Int32.ofNat t < Int32.ofNat (p + w) := fun z => absurd ((o_lt (by omega) (by omega)).mp z) (by omega)
      refine C.iload 13 d2_11 rfl rfl ?_
      refine C.aloadN 14 d2_13 rfl rfl rfl ?_
      refine C.getfieldOld 17 d2_14 rfl (tw 19) Via.refl F ?_
      refine C.iadd 18 d2_17 rfl ?_
      rw [o_add]
      refine C.iloadN 19 d2_18 rfl rfl ?_
      refine C.icmpF 22 d2_19 rfl (flt q).2.2.1 ?_
      refine C.iload 24 d2_22 rfl rfl ?_
      refine C.istore 26 #[.val (.ref vr), .val (.ref arr), .val (.int (Int32.ofNat (f))), .val (.int (Int32.ofNat (t))), .val (.int (Int32.ofNat (p))), .val (.int (Int32.ofNat (p))), s6, s7] d2_24 rfl (XS.store1 rfl h5 rfl) ?_
      refine C.iload 28 d2_26 rfl rfl ?_
      refine C.aloadN 29 d2_28 rfl rfl rfl ?_
      refine C.getfieldOld 32 d2_29 rfl (tw 19) Via.refl F ?_
      refine C.iadd 33 d2_32 rfl ?_
      rw [o_add]
      refine C.iconst 34 (1 : Int32) d2_33 rfl rfl ?_
      refine C.isub 35 d2_34 rfl ?_
      have e1 : Int32.ofNat (p + w) - (1 : Int32) = Int32.ofNat (p + w - 1) := o_sub (y := 1) (by omega) (by omega)
      rw [e1]
      refine C.istore 37 #[.val (.ref vr), .val (.ref arr), .val (.int (Int32.ofNat (f))), .val (.int (Int32.ofNat (t))), .val (.int (Int32.ofNat (p))), .val (.int (Int32.ofNat (p))), .val (.int (Int32.ofNat (p + w - 1))), s7] d2_35 rfl (XS.store1 rfl h6 rfl) ?_
      refine sw_in C vr arr za f t p hp w p (p + w - 1) h vs s7 (by omega) (by omega) (by omega) hl B h7 A ?_
      intro h1 i' j' s7' K1 B1 A1 q7
      refine C.iload 75 d2_73 rfl rfl ?_
      refine C.aloadN 76 d2_75 rfl rfl rfl ?_
      refine C.getfieldOld 79 d2_76 rfl (tw 19) Via.refl F ?_
      refine C.iadd 80 d2_79 rfl ?_
      rw [o_add]
      refine C.istore 82 #[.val (.ref vr), .val (.ref arr), .val (.int (Int32.ofNat (f))), .val (.int (Int32.ofNat (t))), .val (.int (Int32.ofNat (p + w))), .val (.int (Int32.ofNat (i'))), .val (.int (Int32.ofNat (j'))), s7'] d2_80 rfl rfl ?_
      refine C.goto 11 d2_82 rfl ?_
      exact sw_out C vr arr za hck hcs f t w ht hw2 hw8 F d (p + w) h1 _ _ _ _ (by omega) (by omega) (by rw [innF_len]; exact hl) B1 (Or.inr ⟨_, rfl, rfl⟩) (Or.inr ⟨_, rfl, rfl⟩) q7 A1 (fun h' K' A' => K h' (K1.trans K' (fun x hx => Or.inl hx)) A')
    · rw [if_neg hc] at K
      have q : Int32.ofNat t < Int32.ofNat (p + w) := (o_lt (by omega) (by omega)).mpr (by omega)
      refine C.iload 13 d2_11 rfl rfl ?_
      refine C.aloadN 14 d2_13 rfl rfl rfl ?_
      refine C.getfieldOld 17 d2_14 rfl (tw 19) Via.refl F ?_
      refine C.iadd 18 d2_17 rfl ?_
      rw [o_add]
      refine C.iloadN 19 d2_18 rfl rfl ?_
      refine C.icmpT 85 d2_19 rfl (tlt q).2.2.1 ?_
      exact C.ret0 d2_85 rfl hck hcs (K h (Keep.refl _ _) A)
set_option maxRecDepth 65536 in
set_option maxHeartbeats 40000000 in
theorem sbo (l : Launch) (Z : State) (a0' : Array Value) (hw : ∀ d ∈ tables_1, d.before a0' Z = true) (h : Heap) (vr arr : Addr) (za : Z.heap.size ≤ arr) (f t w : Nat) (hf : f < 17) (ht : t < 17) (E : Exa Z Z.heap vr "com/example/shroud/shroud/dicom/Vr") (F : Fld Z Z.heap vr "com/example/shroud/shroud/dicom/Vr" "wordSize" "I" (.int (Int32.ofNat w))) (vs : List Value) (hl : vs.length = 16) (B : Bs vs) (A : Al Z h arr .byte vs) (hw2 : 2 ≤ w) (hw8 : w ≤ 8) :
    Con l Z (⟨"com/example/shroud/shroud/dicom/Vr", "swapByteOrder", "([BII)V"⟩ : MethodName) prog_65_method_9_code 8 none ⟨1, 0, 0, 12⟩ #[.ref vr, .ref arr, .int (Int32.ofNat f), .int (Int32.ofNat t)] h (fun v h' => v = none ∧ Keep h h' [arr] ∧ Al Z h' arr .byte (outF 17 w f t vs)) := by
  refine Con.of (Ls := #[.val (.ref vr), .val (.ref arr), .val (.int (Int32.ofNat (f))), .val (.int (Int32.ofNat (t))), .unset, .unset, .unset, .unset]) hw pn2 (fun m => by first | (simp [entryFrame, mkF, argsToLocals, Value.category, maxLocals]; done) | rfl) fun W C => ?_
  refine C.kept fun hE => ?_
  have z0 : Z.heap.size ≤ h.size := hE.1
  have h1w : (1 : Int32) < Int32.ofNat w := (o_lt (x := 1) (by omega) (by omega)).mpr (by omega)
  refine C.aloadN 1 d2_0 rfl rfl rfl ?_
  refine C.callV 4 (as := []) (rest := []) (rm := ⟨0, 0, 0, 0⟩) 0 d2_1 rfl (tw 14) (tw 15) (tw 17) nfSelf (tw 16) (tw 1) (tw 18) (by decide) (E.ext hE) (hb_t l Z a0' hw h vr _ F h1w) pd3 rfl rfl (Nat.le_of_eq rfl) (by decide) (by decide) (by decide) (by decide) rfl ?_
  refine same_intro ?_
  show W h 0 0 4 #[.val (.ref vr), .val (.ref arr), .val (.int (Int32.ofNat (f))), .val (.int (Int32.ofNat (t))), .unset, .unset, .unset, .unset] [.int (1 : Int32)]
  refine C.ifT 8 d2_4 rfl (by decide) ?_
  refine C.iloadN 9 d2_8 rfl rfl ?_
  refine C.istore 11 #[.val (.ref vr), .val (.ref arr), .val (.int (Int32.ofNat (f))), .val (.int (Int32.ofNat (t))), .val (.int (Int32.ofNat (f))), .unset, .unset, .unset] d2_9 rfl rfl ?_
  exact sw_out C vr arr za (by decide) (by decide) f t w ht hw2 hw8 F 17 f h vs _ _ _ (by omega) hf hl B (Or.inl rfl) (Or.inl rfl) (Or.inl rfl) A (fun h' K' A' => ⟨rfl, K', A'⟩)
set_option maxRecDepth 65536 in
set_option maxHeartbeats 40000000 in
theorem sbo1 (l : Launch) (Z : State) (a0' : Array Value) (hw : ∀ d ∈ tables_1, d.before a0' Z = true) (h : Heap) (vr arr : Addr) (za : Z.heap.size ≤ arr) (f t w : Nat) (hf : f < 17) (ht : t < 17) (E : Exa Z Z.heap vr "com/example/shroud/shroud/dicom/Vr") (F : Fld Z Z.heap vr "com/example/shroud/shroud/dicom/Vr" "wordSize" "I" (.int (Int32.ofNat w))) (h1 : w = 1) :
    Con l Z (⟨"com/example/shroud/shroud/dicom/Vr", "swapByteOrder", "([BII)V"⟩ : MethodName) prog_65_method_9_code 8 none ⟨1, 0, 0, 12⟩ #[.ref vr, .ref arr, .int (Int32.ofNat f), .int (Int32.ofNat t)] h (Same none h) := by
  refine Con.of (Ls := #[.val (.ref vr), .val (.ref arr), .val (.int (Int32.ofNat (f))), .val (.int (Int32.ofNat (t))), .unset, .unset, .unset, .unset]) hw pn2 (fun m => by first | (simp [entryFrame, mkF, argsToLocals, Value.category, maxLocals]; done) | rfl) fun W C => ?_
  refine C.kept fun hE => ?_
  have z0 : Z.heap.size ≤ h.size := hE.1
  subst h1
  have h1w : ¬ (1 : Int32) < Int32.ofNat 1 := by decide
  refine C.aloadN 1 d2_0 rfl rfl rfl ?_
  refine C.callV 4 (as := []) (rest := []) (rm := ⟨0, 0, 0, 0⟩) 0 d2_1 rfl (tw 14) (tw 15) (tw 17) nfSelf (tw 16) (tw 1) (tw 18) (by decide) (E.ext hE) (hb_f l Z a0' hw h vr _ F h1w) pd3 rfl rfl (Nat.le_of_eq rfl) (by decide) (by decide) (by decide) (by decide) rfl ?_
  refine same_intro ?_
  show W h 0 0 4 #[.val (.ref vr), .val (.ref arr), .val (.int (Int32.ofNat (f))), .val (.int (Int32.ofNat (t))), .unset, .unset, .unset, .unset] [.int (0 : Int32)]
  refine C.ifF 7 d2_4 rfl (by decide) ?_
  exact C.ret0 d2_7 rfl (by decide) (by decide) ⟨rfl, rfl⟩
set_option maxRecDepth 65536 in
set_option maxHeartbeats 40000000 in
theorem expd (l : Launch) (Z : State) (a0' : Array Value) (hw : ∀ d ∈ tables_1, d.before a0' Z = true) (h : Heap) (arr : Addr) (f t w k : Nat) (hf : f < 17) (ht : t < 17) (hk : k < 16) (hw4 : w = 1 ∨ w = 2 ∨ w = 4 ∨ w = 8) (g : Nat → Int32) (hg : ∀ i, nar .byte (g i) = g i) (A : Al Z h arr .byte ((List.range 16).map fun i => .int (g i))) :
    Con l Z (⟨"com/example/shroud/shroud/dicom/VrSwapByteOrderPinLaw", "expected", "([BIIII)B"⟩ : MethodName) method_3_code 6 (some .byte) ⟨0, 0, 0, 0⟩ #[.ref arr, .int (Int32.ofNat f), .int (Int32.ofNat (f + (t - f) / w * w)), .int (Int32.ofNat w), .int (Int32.ofNat k)] h (Same (some (.int (g (perm f (f + (t - f) / w * w) w k)))) h) := by
  refine Con.of (Ls := #[.val (.ref arr), .val (.int (Int32.ofNat (f))), .val (.int (Int32.ofNat (f + (t - f) / w * w))), .val (.int (Int32.ofNat (w))), .val (.int (Int32.ofNat (k))), .unset]) hw pn4 (fun m => by first | (simp [entryFrame, mkF, argsToLocals, Value.category, maxLocals]; done) | rfl) fun W C => ?_
  refine C.kept fun hE => ?_
  have z0 : Z.heap.size ≤ h.size := hE.1
  have he : f + (t - f) / w * w < 34 := by rcases hw4 with rfl | rfl | rfl | rfl <;> omega
  have hw8 : w ≤ 8 := by omega
  have hw1 : 1 ≤ w := by omega
  have hpl := perm_lt hw4 hf ht hk
  have at' : ∀ i, i < 16 → ((List.range 16).map fun i => Value.int (g i))[i]? = some (.int (g i)) := fun i hi => by simp [hi]
  generalize ee : f + (t - f) / w * w = e at *
  by_cases hc : k < f
  · have q := (o_lt (x := k) (y := f) (by omega) (by omega)).mpr hc
    refine C.iload 2 d4_0 rfl rfl ?_
    refine C.iloadN 3 d4_2 rfl rfl ?_
    refine C.icmpT 12 d4_3 rfl (tlt q).1 ?_
    refine C.aloadN 13 d4_12 rfl rfl rfl ?_
    refine C.iload 15 d4_13 rfl rfl ?_
    have ep : perm f e w k = k := by unfold perm; rw [if_pos (Or.inl hc)]
    refine C.baloadB 16 k (.int (g k)) d4_15 rfl A (o_nn (by omega)) (o_cl (by omega)) (at' k hk) ?_
    exact C.retI .byte d4_16 rfl (by simp) (hg _) (by decide) (by decide) ⟨by rw [ep], rfl⟩
  · have q := fun z => hc ((o_lt (x := k) (y := f) (by omega) (by omega)).mp z)
    refine C.iload 2 d4_0 rfl rfl ?_
    refine C.iloadN 3 d4_2 rfl rfl ?_
    refine C.icmpF 6 d4_3 rfl (flt q).1 ?_
    refine C.iload 8 d4_6 rfl rfl ?_
    refine C.iloadN 9 d4_8 rfl rfl ?_
    by_cases hc2 : k < e
    · have q2 := (o_lt (x := k) (y := e) (by omega) (by omega)).mpr hc2
      refine C.icmpT 17 d4_9 rfl (tlt q2).1 ?_
      refine C.iload 19 d4_17 rfl rfl ?_
      refine C.iloadN 20 d4_19 rfl rfl ?_
      refine C.isub 21 d4_20 rfl ?_
      rw [o_sub (by omega) (by omega)]
      refine C.iloadN 22 d4_21 rfl rfl ?_
      refine C.irem 23 d4_22 rfl (o_ne (by omega) (by omega)) ?_
      rw [o_mod (by omega) (by omega)]
      have hr : (k - f) % w < w := Nat.mod_lt _ (by omega)
      have hr2 : (k - f) % w ≤ k - f := Nat.mod_le _ _
      generalize er : (k - f) % w = r at hr hr2 ⊢
      refine C.istore 25 #[.val (.ref arr), .val (.int (Int32.ofNat (f))), .val (.int (Int32.ofNat (e))), .val (.int (Int32.ofNat (w))), .val (.int (Int32.ofNat (k))), .val (.int (Int32.ofNat (r)))] d4_23 rfl rfl ?_
      refine C.aloadN 26 d4_25 rfl rfl rfl ?_
      refine C.iload 28 d4_26 rfl rfl ?_
      refine C.iload 30 d4_28 rfl rfl ?_
      refine C.isub 31 d4_30 rfl ?_
      rw [o_sub (by omega) (by omega)]
      refine C.iloadN 32 d4_31 rfl rfl ?_
      refine C.iadd 33 d4_32 rfl ?_
      rw [o_add]
      refine C.iconst 34 (1 : Int32) d4_33 rfl rfl ?_
      refine C.isub 35 d4_34 rfl ?_
      have e1 : Int32.ofNat (k - r + w) - (1 : Int32) = Int32.ofNat (k - r + w - 1) := o_sub (y := 1) (by omega) (by omega)
      rw [e1]
      refine C.iload 37 d4_35 rfl rfl ?_
      refine C.isub 38 d4_37 rfl ?_
      rw [o_sub (by omega) (by omega)]
      have ep : perm f e w k = k - r + w - 1 - r := by unfold perm; rw [if_neg (by omega), er]; omega
      rw [ep] at hpl
      refine C.baloadB 39 (k - r + w - 1 - r) (.int (g (k - r + w - 1 - r))) d4_38 rfl A (o_nn (by omega)) (o_cl (by omega)) (at' _ hpl) ?_
      exact C.retI .byte d4_39 rfl (by simp) (hg _) (by decide) (by decide) ⟨by rw [ep], rfl⟩
    · have q2 := fun z => hc2 ((o_lt (x := k) (y := e) (by omega) (by omega)).mp z)
      refine C.icmpF 12 d4_9 rfl (flt q2).1 ?_
      refine C.aloadN 13 d4_12 rfl rfl rfl ?_
      refine C.iload 15 d4_13 rfl rfl ?_
      have ep : perm f e w k = k := by unfold perm; rw [if_pos (Or.inr (Nat.le_of_not_lt hc2))]
      refine C.baloadB 16 k (.int (g k)) d4_15 rfl A (o_nn (by omega)) (o_cl (by omega)) (at' k hk) ?_
      exact C.retI .byte d4_16 rfl (by simp) (hg _) (by decide) (by decide) ⟨by rw [ep], rfl⟩
theorem fld_of {s : State} {args : Array Value} {t : Term} {a : Addr} {C f : String} {z : Int32} (ht : t.eval args s none [] s = some (.ref a)) (h : (Jvm.Cond.eq (Jvm.Term.field t C f "I") (Jvm.Term.int z)).value args s none s [] = some true) : Fld s s.heap a C f "I" (.int z) :=
  Fld.start ((fld_at ht).symm.trans (eqv_i (Term.int_eval (z)) h))
set_option maxRecDepth 65536 in
set_option maxHeartbeats 40000000 in
theorem law_con (l : Launch) (Z : State) (a0' : Array Value) (hw : ∀ d ∈ tables_1, d.before a0' Z = true) (a b : Int64) (sel pf pt : Int32) (aAE aOB aUS aOW aUL aFL aFD aOV : Addr) (SAE : Sta Z Z.heap "com/example/shroud/shroud/dicom/Vr" "AE" "Lcom/example/shroud/shroud/dicom/Vr;" (.ref aAE)) (EAE : Exa Z Z.heap aAE "com/example/shroud/shroud/dicom/Vr") (FAE : Fld Z Z.heap aAE "com/example/shroud/shroud/dicom/Vr" "wordSize" "I" (.int (1 : Int32))) (SOB : Sta Z Z.heap "com/example/shroud/shroud/dicom/Vr" "OB" "Lcom/example/shroud/shroud/dicom/Vr;" (.ref aOB)) (EOB : Exa Z Z.heap aOB "com/example/shroud/shroud/dicom/Vr") (FOB : Fld Z Z.heap aOB "com/example/shroud/shroud/dicom/Vr" "wordSize" "I" (.int (1 : Int32))) (SUS : Sta Z Z.heap "com/example/shroud/shroud/dicom/Vr" "US" "Lcom/example/shroud/shroud/dicom/Vr;" (.ref aUS)) (EUS : Exa Z Z.heap aUS "com/example/shroud/shroud/dicom/Vr") (FUS : Fld Z Z.heap aUS "com/example/shroud/shroud/dicom/Vr" "wordSize" "I" (.int (2 : Int32))) (SOW : Sta Z Z.heap "com/example/shroud/shroud/dicom/Vr" "OW" "Lcom/example/shroud/shroud/dicom/Vr;" (.ref aOW)) (EOW : Exa Z Z.heap aOW "com/example/shroud/shroud/dicom/Vr") (FOW : Fld Z Z.heap aOW "com/example/shroud/shroud/dicom/Vr" "wordSize" "I" (.int (2 : Int32))) (SUL : Sta Z Z.heap "com/example/shroud/shroud/dicom/Vr" "UL" "Lcom/example/shroud/shroud/dicom/Vr;" (.ref aUL)) (EUL : Exa Z Z.heap aUL "com/example/shroud/shroud/dicom/Vr") (FUL : Fld Z Z.heap aUL "com/example/shroud/shroud/dicom/Vr" "wordSize" "I" (.int (4 : Int32))) (SFL : Sta Z Z.heap "com/example/shroud/shroud/dicom/Vr" "FL" "Lcom/example/shroud/shroud/dicom/Vr;" (.ref aFL)) (EFL : Exa Z Z.heap aFL "com/example/shroud/shroud/dicom/Vr") (FFL : Fld Z Z.heap aFL "com/example/shroud/shroud/dicom/Vr" "wordSize" "I" (.int (4 : Int32))) (SFD : Sta Z Z.heap "com/example/shroud/shroud/dicom/Vr" "FD" "Lcom/example/shroud/shroud/dicom/Vr;" (.ref aFD)) (EFD : Exa Z Z.heap aFD "com/example/shroud/shroud/dicom/Vr") (FFD : Fld Z Z.heap aFD "com/example/shroud/shroud/dicom/Vr" "wordSize" "I" (.int (8 : Int32))) (SOV : Sta Z Z.heap "com/example/shroud/shroud/dicom/Vr" "OV" "Lcom/example/shroud/shroud/dicom/Vr;" (.ref aOV)) (EOV : Exa Z Z.heap aOV "com/example/shroud/shroud/dicom/Vr") (FOV : Fld Z Z.heap aOV "com/example/shroud/shroud/dicom/Vr" "wordSize" "I" (.int (8 : Int32))) :
    Con l Z x code maxLocals ret room_1 #[.long a, .long b, .int sel, .int pf, .int pt] Z.heap (fun v _ => v = some (.int 1)) := by
  refine Con.of (Ls := #[.val (.long a), .second, .val (.long b), .second, .val (.int sel), .val (.int pf), .val (.int pt), .unset, .unset, .unset, .unset, .unset, .unset, .unset, .unset, .unset, .unset]) hw pn0 (fun m => by first | (simp [entryFrame, mkF, argsToLocals, Value.category, maxLocals]; done) | rfl) fun W C => ?_
  have z0 : Z.heap.size ≤ Z.heap.size := Nat.le_refl _
  have J136 : ∀ (vr : Addr) (w : Nat), Exa Z Z.heap vr "com/example/shroud/shroud/dicom/Vr" → Fld Z Z.heap vr "com/example/shroud/shroud/dicom/Vr" "wordSize" "I" (.int (Int32.ofNat w)) → (w = 1 ∨ w = 2 ∨ w = 4 ∨ w = 8) → W Z.heap 0 0 136 #[.val (.long a), .second, .val (.long b), .second, .val (.int sel), .val (.int pf), .val (.int pt), .val (.int (sel &&& (7 : Int32))), .val (.ref vr), .val (.int (Int32.ofNat (w))), .unset, .unset, .unset, .unset, .unset, .unset, .unset] [] := by
    intro vr w E F hw4
    generalize sel &&& (7 : Int32) = sv
    refine C.iload 138 at_136 rfl rfl ?_
    refine C.ldc 140 (2147483647 : Int32) at_138 rfl (tw 3) ?_
    refine C.iand 141 at_140 rfl ?_
    refine C.bipush 143 (17 : Int32) at_141 rfl rfl ?_
    refine C.irem 144 at_143 rfl (by decide) ?_
    obtain ⟨f, hf, ef⟩ := rem17 pf
    rw [ef]
    refine C.istore 146 #[.val (.long a), .second, .val (.long b), .second, .val (.int sel), .val (.int pf), .val (.int pt), .val (.int sv), .val (.ref vr), .val (.int (Int32.ofNat (w))), .val (.int (Int32.ofNat (f))), .unset, .unset, .unset, .unset, .unset, .unset] at_144 rfl rfl ?_
    refine C.iload 148 at_146 rfl rfl ?_
    refine C.ldc 150 (2147483647 : Int32) at_148 rfl (tw 3) ?_
    refine C.iand 151 at_150 rfl ?_
    refine C.bipush 153 (17 : Int32) at_151 rfl rfl ?_
    refine C.irem 154 at_153 rfl (by decide) ?_
    obtain ⟨t, ht, et⟩ := rem17 pt
    rw [et]
    refine C.istore 156 #[.val (.long a), .second, .val (.long b), .second, .val (.int sel), .val (.int pf), .val (.int pt), .val (.int sv), .val (.ref vr), .val (.int (Int32.ofNat (w))), .val (.int (Int32.ofNat (f))), .val (.int (Int32.ofNat (t))), .unset, .unset, .unset, .unset, .unset] at_154 rfl rfl ?_
    refine C.bipush 158 (16 : Int32) at_156 rfl rfl ?_
    refine C.newarray 160 16 at_158 rfl (tw 4) (by decide) (by decide) (by decide) (by decide) (by decide) ?_
    intro h1 E1 A1
    obtain ⟨b1, g1⟩ : ∃ z, z = Z.heap.size := ⟨_, rfl⟩
    rw [← g1] at A1 ⊢
    have Ab1_1 : Al Z h1 b1 .byte [.int (0 : Int32), .int (0 : Int32), .int (0 : Int32), .int (0 : Int32), .int (0 : Int32), .int (0 : Int32), .int (0 : Int32), .int (0 : Int32), .int (0 : Int32), .int (0 : Int32), .int (0 : Int32), .int (0 : Int32), .int (0 : Int32), .int (0 : Int32), .int (0 : Int32), .int (0 : Int32)] := A1
    have z1 : Z.heap.size ≤ h1.size := Nat.le_trans z0 E1.1
    have zb1 : Z.heap.size ≤ b1 := by rw [g1]; exact z0
    show W h1 1 16 160 #[.val (.long a), .second, .val (.long b), .second, .val (.int sel), .val (.int pf), .val (.int pt), .val (.int sv), .val (.ref vr), .val (.int (Int32.ofNat (w))), .val (.int (Int32.ofNat (f))), .val (.int (Int32.ofNat (t))), .unset, .unset, .unset, .unset, .unset] [.ref b1]
    refine C.dup 161 at_160 rfl rfl ?_
    refine C.iconst 162 (0 : Int32) at_161 rfl rfl ?_
    refine C.lloadN 163 at_162 rfl rfl ?_
    refine C.lloadN 164 at_163 rfl rfl ?_
    refine C.iconst 165 (0 : Int32) at_164 rfl rfl ?_
    refine C.callS 168 (as := [.long a, .long b, .int (0 : Int32)]) (rest := [.int (0 : Int32), .ref b1, .ref b1]) (rm := ⟨0, 0, 0, 0⟩) 3 at_165 rfl (tw 5) (tw 6) (tw 7) (tw 8) (by decide) (byteOf l Z a0' hw h1 a b 0 (by decide)) pd1 rfl rfl (Nat.le_of_eq rfl) (by decide) (by decide) (by decide) (by decide) rfl ?_
    refine same_intro ?_
    show W h1 1 16 168 #[.val (.long a), .second, .val (.long b), .second, .val (.int sel), .val (.int pf), .val (.int pt), .val (.int sv), .val (.ref vr), .val (.int (Int32.ofNat (w))), .val (.int (Int32.ofNat (f))), .val (.int (Int32.ofNat (t))), .unset, .unset, .unset, .unset, .unset] [.int (bt a b 0), .int (0 : Int32), .ref b1, .ref b1]
    refine C.bastoreB 169 0 (bt a b 0) at_168 rfl Ab1_1 zb1 (by decide) rfl (Nat.le_of_ble_eq_true rfl) (bt_nar a b 0) ?_
    intro h2 W2 A2
    have Ab1_2 : Al Z h2 b1 .byte [.int (bt a b 0), .int (0 : Int32), .int (0 : Int32), .int (0 : Int32), .int (0 : Int32), .int (0 : Int32), .int (0 : Int32), .int (0 : Int32), .int (0 : Int32), .int (0 : Int32), .int (0 : Int32), .int (0 : Int32), .int (0 : Int32), .int (0 : Int32), .int (0 : Int32), .int (0 : Int32)] := A2
    have z2 : Z.heap.size ≤ h2.size := by rw [W2.size]; exact z1
    refine C.dup 170 at_169 rfl rfl ?_
    refine C.iconst 171 (1 : Int32) at_170 rfl rfl ?_
    refine C.lloadN 172 at_171 rfl rfl ?_
    refine C.lloadN 173 at_172 rfl rfl ?_
    refine C.iconst 174 (1 : Int32) at_173 rfl rfl ?_
    refine C.callS 177 (as := [.long a, .long b, .int (1 : Int32)]) (rest := [.int (1 : Int32), .ref b1, .ref b1]) (rm := ⟨0, 0, 0, 0⟩) 3 at_174 rfl (tw 5) (tw 6) (tw 7) (tw 8) (by decide) (byteOf l Z a0' hw h2 a b 1 (by decide)) pd1 rfl rfl (Nat.le_of_eq rfl) (by decide) (by decide) (by decide) (by decide) rfl ?_
    refine same_intro ?_
    show W h2 1 16 177 #[.val (.long a), .second, .val (.long b), .second, .val (.int sel), .val (.int pf), .val (.int pt), .val (.int sv), .val (.ref vr), .val (.int (Int32.ofNat (w))), .val (.int (Int32.ofNat (f))), .val (.int (Int32.ofNat (t))), .unset, .unset, .unset, .unset, .unset] [.int (bt a b 1), .int (1 : Int32), .ref b1, .ref b1]
    refine C.bastoreB 178 1 (bt a b 1) at_177 rfl Ab1_2 zb1 (by decide) rfl (Nat.le_of_ble_eq_true rfl) (bt_nar a b 1) ?_
    intro h3 W3 A3
    have Ab1_3 : Al Z h3 b1 .byte [.int (bt a b 0), .int (bt a b 1), .int (0 : Int32), .int (0 : Int32), .int (0 : Int32), .int (0 : Int32), .int (0 : Int32), .int (0 : Int32), .int (0 : Int32), .int (0 : Int32), .int (0 : Int32), .int (0 : Int32), .int (0 : Int32), .int (0 : Int32), .int (0 : Int32), .int (0 : Int32)] := A3
    have z3 : Z.heap.size ≤ h3.size := by rw [W3.size]; exact z2
    refine C.dup 179 at_178 rfl rfl ?_
    refine C.iconst 180 (2 : Int32) at_179 rfl rfl ?_
    refine C.lloadN 181 at_180 rfl rfl ?_
    refine C.lloadN 182 at_181 rfl rfl ?_
    refine C.iconst 183 (2 : Int32) at_182 rfl rfl ?_
    refine C.callS 186 (as := [.long a, .long b, .int (2 : Int32)]) (rest := [.int (2 : Int32), .ref b1, .ref b1]) (rm := ⟨0, 0, 0, 0⟩) 3 at_183 rfl (tw 5) (tw 6) (tw 7) (tw 8) (by decide) (byteOf l Z a0' hw h3 a b 2 (by decide)) pd1 rfl rfl (Nat.le_of_eq rfl) (by decide) (by decide) (by decide) (by decide) rfl ?_
    refine same_intro ?_
    show W h3 1 16 186 #[.val (.long a), .second, .val (.long b), .second, .val (.int sel), .val (.int pf), .val (.int pt), .val (.int sv), .val (.ref vr), .val (.int (Int32.ofNat (w))), .val (.int (Int32.ofNat (f))), .val (.int (Int32.ofNat (t))), .unset, .unset, .unset, .unset, .unset] [.int (bt a b 2), .int (2 : Int32), .ref b1, .ref b1]
    refine C.bastoreB 187 2 (bt a b 2) at_186 rfl Ab1_3 zb1 (by decide) rfl (Nat.le_of_ble_eq_true rfl) (bt_nar a b 2) ?_
    intro h4 W4 A4
    have Ab1_4 : Al Z h4 b1 .byte [.int (bt a b 0), .int (bt a b 1), .int (bt a b 2), .int (0 : Int32), .int (0 : Int32), .int (0 : Int32), .int (0 : Int32), .int (0 : Int32), .int (0 : Int32), .int (0 : Int32), .int (0 : Int32), .int (0 : Int32), .int (0 : Int32), .int (0 : Int32), .int (0 : Int32), .int (0 : Int32)] := A4
    have z4 : Z.heap.size ≤ h4.size := by rw [W4.size]; exact z3
    refine C.dup 188 at_187 rfl rfl ?_
    refine C.iconst 189 (3 : Int32) at_188 rfl rfl ?_
    refine C.lloadN 190 at_189 rfl rfl ?_
    refine C.lloadN 191 at_190 rfl rfl ?_
    refine C.iconst 192 (3 : Int32) at_191 rfl rfl ?_
    refine C.callS 195 (as := [.long a, .long b, .int (3 : Int32)]) (rest := [.int (3 : Int32), .ref b1, .ref b1]) (rm := ⟨0, 0, 0, 0⟩) 3 at_192 rfl (tw 5) (tw 6) (tw 7) (tw 8) (by decide) (byteOf l Z a0' hw h4 a b 3 (by decide)) pd1 rfl rfl (Nat.le_of_eq rfl) (by decide) (by decide) (by decide) (by decide) rfl ?_
    refine same_intro ?_
    show W h4 1 16 195 #[.val (.long a), .second, .val (.long b), .second, .val (.int sel), .val (.int pf), .val (.int pt), .val (.int sv), .val (.ref vr), .val (.int (Int32.ofNat (w))), .val (.int (Int32.ofNat (f))), .val (.int (Int32.ofNat (t))), .unset, .unset, .unset, .unset, .unset] [.int (bt a b 3), .int (3 : Int32), .ref b1, .ref b1]
    refine C.bastoreB 196 3 (bt a b 3) at_195 rfl Ab1_4 zb1 (by decide) rfl (Nat.le_of_ble_eq_true rfl) (bt_nar a b 3) ?_
    intro h5 W5 A5
    have Ab1_5 : Al Z h5 b1 .byte [.int (bt a b 0), .int (bt a b 1), .int (bt a b 2), .int (bt a b 3), .int (0 : Int32), .int (0 : Int32), .int (0 : Int32), .int (0 : Int32), .int (0 : Int32), .int (0 : Int32), .int (0 : Int32), .int (0 : Int32), .int (0 : Int32), .int (0 : Int32), .int (0 : Int32), .int (0 : Int32)] := A5
    have z5 : Z.heap.size ≤ h5.size := by rw [W5.size]; exact z4
    refine C.dup 197 at_196 rfl rfl ?_
    refine C.iconst 198 (4 : Int32) at_197 rfl rfl ?_
    refine C.lloadN 199 at_198 rfl rfl ?_
    refine C.lloadN 200 at_199 rfl rfl ?_
    refine C.iconst 201 (4 : Int32) at_200 rfl rfl ?_
    refine C.callS 204 (as := [.long a, .long b, .int (4 : Int32)]) (rest := [.int (4 : Int32), .ref b1, .ref b1]) (rm := ⟨0, 0, 0, 0⟩) 3 at_201 rfl (tw 5) (tw 6) (tw 7) (tw 8) (by decide) (byteOf l Z a0' hw h5 a b 4 (by decide)) pd1 rfl rfl (Nat.le_of_eq rfl) (by decide) (by decide) (by decide) (by decide) rfl ?_
    refine same_intro ?_
    show W h5 1 16 204 #[.val (.long a), .second, .val (.long b), .second, .val (.int sel), .val (.int pf), .val (.int pt), .val (.int sv), .val (.ref vr), .val (.int (Int32.ofNat (w))), .val (.int (Int32.ofNat (f))), .val (.int (Int32.ofNat (t))), .unset, .unset, .unset, .unset, .unset] [.int (bt a b 4), .int (4 : Int32), .ref b1, .ref b1]
    refine C.bastoreB 205 4 (bt a b 4) at_204 rfl Ab1_5 zb1 (by decide) rfl (Nat.le_of_ble_eq_true rfl) (bt_nar a b 4) ?_
    intro h6 W6 A6
    have Ab1_6 : Al Z h6 b1 .byte [.int (bt a b 0), .int (bt a b 1), .int (bt a b 2), .int (bt a b 3), .int (bt a b 4), .int (0 : Int32), .int (0 : Int32), .int (0 : Int32), .int (0 : Int32), .int (0 : Int32), .int (0 : Int32), .int (0 : Int32), .int (0 : Int32), .int (0 : Int32), .int (0 : Int32), .int (0 : Int32)] := A6
    have z6 : Z.heap.size ≤ h6.size := by rw [W6.size]; exact z5
    refine C.dup 206 at_205 rfl rfl ?_
    refine C.iconst 207 (5 : Int32) at_206 rfl rfl ?_
    refine C.lloadN 208 at_207 rfl rfl ?_
    refine C.lloadN 209 at_208 rfl rfl ?_
    refine C.iconst 210 (5 : Int32) at_209 rfl rfl ?_
    refine C.callS 213 (as := [.long a, .long b, .int (5 : Int32)]) (rest := [.int (5 : Int32), .ref b1, .ref b1]) (rm := ⟨0, 0, 0, 0⟩) 3 at_210 rfl (tw 5) (tw 6) (tw 7) (tw 8) (by decide) (byteOf l Z a0' hw h6 a b 5 (by decide)) pd1 rfl rfl (Nat.le_of_eq rfl) (by decide) (by decide) (by decide) (by decide) rfl ?_
    refine same_intro ?_
    show W h6 1 16 213 #[.val (.long a), .second, .val (.long b), .second, .val (.int sel), .val (.int pf), .val (.int pt), .val (.int sv), .val (.ref vr), .val (.int (Int32.ofNat (w))), .val (.int (Int32.ofNat (f))), .val (.int (Int32.ofNat (t))), .unset, .unset, .unset, .unset, .unset] [.int (bt a b 5), .int (5 : Int32), .ref b1, .ref b1]
    refine C.bastoreB 214 5 (bt a b 5) at_213 rfl Ab1_6 zb1 (by decide) rfl (Nat.le_of_ble_eq_true rfl) (bt_nar a b 5) ?_
    intro h7 W7 A7
    have Ab1_7 : Al Z h7 b1 .byte [.int (bt a b 0), .int (bt a b 1), .int (bt a b 2), .int (bt a b 3), .int (bt a b 4), .int (bt a b 5), .int (0 : Int32), .int (0 : Int32), .int (0 : Int32), .int (0 : Int32), .int (0 : Int32), .int (0 : Int32), .int (0 : Int32), .int (0 : Int32), .int (0 : Int32), .int (0 : Int32)] := A7
    have z7 : Z.heap.size ≤ h7.size := by rw [W7.size]; exact z6
    refine C.dup 215 at_214 rfl rfl ?_
    refine C.bipush 217 (6 : Int32) at_215 rfl rfl ?_
    refine C.lloadN 218 at_217 rfl rfl ?_
    refine C.lloadN 219 at_218 rfl rfl ?_
    refine C.bipush 221 (6 : Int32) at_219 rfl rfl ?_
    refine C.callS 224 (as := [.long a, .long b, .int (6 : Int32)]) (rest := [.int (6 : Int32), .ref b1, .ref b1]) (rm := ⟨0, 0, 0, 0⟩) 3 at_221 rfl (tw 5) (tw 6) (tw 7) (tw 8) (by decide) (byteOf l Z a0' hw h7 a b 6 (by decide)) pd1 rfl rfl (Nat.le_of_eq rfl) (by decide) (by decide) (by decide) (by decide) rfl ?_
    refine same_intro ?_
    show W h7 1 16 224 #[.val (.long a), .second, .val (.long b), .second, .val (.int sel), .val (.int pf), .val (.int pt), .val (.int sv), .val (.ref vr), .val (.int (Int32.ofNat (w))), .val (.int (Int32.ofNat (f))), .val (.int (Int32.ofNat (t))), .unset, .unset, .unset, .unset, .unset] [.int (bt a b 6), .int (6 : Int32), .ref b1, .ref b1]
    refine C.bastoreB 225 6 (bt a b 6) at_224 rfl Ab1_7 zb1 (by decide) rfl (Nat.le_of_ble_eq_true rfl) (bt_nar a b 6) ?_
    intro h8 W8 A8
    have Ab1_8 : Al Z h8 b1 .byte [.int (bt a b 0), .int (bt a b 1), .int (bt a b 2), .int (bt a b 3), .int (bt a b 4), .int (bt a b 5), .int (bt a b 6), .int (0 : Int32), .int (0 : Int32), .int (0 : Int32), .int (0 : Int32), .int (0 : Int32), .int (0 : Int32), .int (0 : Int32), .int (0 : Int32), .int (0 : Int32)] := A8
    have z8 : Z.heap.size ≤ h8.size := by rw [W8.size]; exact z7
    refine C.dup 226 at_225 rfl rfl ?_
    refine C.bipush 228 (7 : Int32) at_226 rfl rfl ?_
    refine C.lloadN 229 at_228 rfl rfl ?_
    refine C.lloadN 230 at_229 rfl rfl ?_
    refine C.bipush 232 (7 : Int32) at_230 rfl rfl ?_
    refine C.callS 235 (as := [.long a, .long b, .int (7 : Int32)]) (rest := [.int (7 : Int32), .ref b1, .ref b1]) (rm := ⟨0, 0, 0, 0⟩) 3 at_232 rfl (tw 5) (tw 6) (tw 7) (tw 8) (by decide) (byteOf l Z a0' hw h8 a b 7 (by decide)) pd1 rfl rfl (Nat.le_of_eq rfl) (by decide) (by decide) (by decide) (by decide) rfl ?_
    refine same_intro ?_
    show W h8 1 16 235 #[.val (.long a), .second, .val (.long b), .second, .val (.int sel), .val (.int pf), .val (.int pt), .val (.int sv), .val (.ref vr), .val (.int (Int32.ofNat (w))), .val (.int (Int32.ofNat (f))), .val (.int (Int32.ofNat (t))), .unset, .unset, .unset, .unset, .unset] [.int (bt a b 7), .int (7 : Int32), .ref b1, .ref b1]
    refine C.bastoreB 236 7 (bt a b 7) at_235 rfl Ab1_8 zb1 (by decide) rfl (Nat.le_of_ble_eq_true rfl) (bt_nar a b 7) ?_
    intro h9 W9 A9
    have Ab1_9 : Al Z h9 b1 .byte [.int (bt a b 0), .int (bt a b 1), .int (bt a b 2), .int (bt a b 3), .int (bt a b 4), .int (bt a b 5), .int (bt a b 6), .int (bt a b 7), .int (0 : Int32), .int (0 : Int32), .int (0 : Int32), .int (0 : Int32), .int (0 : Int32), .int (0 : Int32), .int (0 : Int32), .int (0 : Int32)] := A9
    have z9 : Z.heap.size ≤ h9.size := by rw [W9.size]; exact z8
    refine C.dup 237 at_236 rfl rfl ?_
    refine C.bipush 239 (8 : Int32) at_237 rfl rfl ?_
    refine C.lloadN 240 at_239 rfl rfl ?_
    refine C.lloadN 241 at_240 rfl rfl ?_
    refine C.bipush 243 (8 : Int32) at_241 rfl rfl ?_
    refine C.callS 246 (as := [.long a, .long b, .int (8 : Int32)]) (rest := [.int (8 : Int32), .ref b1, .ref b1]) (rm := ⟨0, 0, 0, 0⟩) 3 at_243 rfl (tw 5) (tw 6) (tw 7) (tw 8) (by decide) (byteOf l Z a0' hw h9 a b 8 (by decide)) pd1 rfl rfl (Nat.le_of_eq rfl) (by decide) (by decide) (by decide) (by decide) rfl ?_
    refine same_intro ?_
    show W h9 1 16 246 #[.val (.long a), .second, .val (.long b), .second, .val (.int sel), .val (.int pf), .val (.int pt), .val (.int sv), .val (.ref vr), .val (.int (Int32.ofNat (w))), .val (.int (Int32.ofNat (f))), .val (.int (Int32.ofNat (t))), .unset, .unset, .unset, .unset, .unset] [.int (bt a b 8), .int (8 : Int32), .ref b1, .ref b1]
    refine C.bastoreB 247 8 (bt a b 8) at_246 rfl Ab1_9 zb1 (by decide) rfl (Nat.le_of_ble_eq_true rfl) (bt_nar a b 8) ?_
    intro h10 W10 A10
    have Ab1_10 : Al Z h10 b1 .byte [.int (bt a b 0), .int (bt a b 1), .int (bt a b 2), .int (bt a b 3), .int (bt a b 4), .int (bt a b 5), .int (bt a b 6), .int (bt a b 7), .int (bt a b 8), .int (0 : Int32), .int (0 : Int32), .int (0 : Int32), .int (0 : Int32), .int (0 : Int32), .int (0 : Int32), .int (0 : Int32)] := A10
    have z10 : Z.heap.size ≤ h10.size := by rw [W10.size]; exact z9
    refine C.dup 248 at_247 rfl rfl ?_
    refine C.bipush 250 (9 : Int32) at_248 rfl rfl ?_
    refine C.lloadN 251 at_250 rfl rfl ?_
    refine C.lloadN 252 at_251 rfl rfl ?_
    refine C.bipush 254 (9 : Int32) at_252 rfl rfl ?_
    refine C.callS 257 (as := [.long a, .long b, .int (9 : Int32)]) (rest := [.int (9 : Int32), .ref b1, .ref b1]) (rm := ⟨0, 0, 0, 0⟩) 3 at_254 rfl (tw 5) (tw 6) (tw 7) (tw 8) (by decide) (byteOf l Z a0' hw h10 a b 9 (by decide)) pd1 rfl rfl (Nat.le_of_eq rfl) (by decide) (by decide) (by decide) (by decide) rfl ?_
    refine same_intro ?_
    show W h10 1 16 257 #[.val (.long a), .second, .val (.long b), .second, .val (.int sel), .val (.int pf), .val (.int pt), .val (.int sv), .val (.ref vr), .val (.int (Int32.ofNat (w))), .val (.int (Int32.ofNat (f))), .val (.int (Int32.ofNat (t))), .unset, .unset, .unset, .unset, .unset] [.int (bt a b 9), .int (9 : Int32), .ref b1, .ref b1]
    refine C.bastoreB 258 9 (bt a b 9) at_257 rfl Ab1_10 zb1 (by decide) rfl (Nat.le_of_ble_eq_true rfl) (bt_nar a b 9) ?_
    intro h11 W11 A11
    have Ab1_11 : Al Z h11 b1 .byte [.int (bt a b 0), .int (bt a b 1), .int (bt a b 2), .int (bt a b 3), .int (bt a b 4), .int (bt a b 5), .int (bt a b 6), .int (bt a b 7), .int (bt a b 8), .int (bt a b 9), .int (0 : Int32), .int (0 : Int32), .int (0 : Int32), .int (0 : Int32), .int (0 : Int32), .int (0 : Int32)] := A11
    have z11 : Z.heap.size ≤ h11.size := by rw [W11.size]; exact z10
    refine C.dup 259 at_258 rfl rfl ?_
    refine C.bipush 261 (10 : Int32) at_259 rfl rfl ?_
    refine C.lloadN 262 at_261 rfl rfl ?_
    refine C.lloadN 263 at_262 rfl rfl ?_
    refine C.bipush 265 (10 : Int32) at_263 rfl rfl ?_
    refine C.callS 268 (as := [.long a, .long b, .int (10 : Int32)]) (rest := [.int (10 : Int32), .ref b1, .ref b1]) (rm := ⟨0, 0, 0, 0⟩) 3 at_265 rfl (tw 5) (tw 6) (tw 7) (tw 8) (by decide) (byteOf l Z a0' hw h11 a b 10 (by decide)) pd1 rfl rfl (Nat.le_of_eq rfl) (by decide) (by decide) (by decide) (by decide) rfl ?_
    refine same_intro ?_
    show W h11 1 16 268 #[.val (.long a), .second, .val (.long b), .second, .val (.int sel), .val (.int pf), .val (.int pt), .val (.int sv), .val (.ref vr), .val (.int (Int32.ofNat (w))), .val (.int (Int32.ofNat (f))), .val (.int (Int32.ofNat (t))), .unset, .unset, .unset, .unset, .unset] [.int (bt a b 10), .int (10 : Int32), .ref b1, .ref b1]
    refine C.bastoreB 269 10 (bt a b 10) at_268 rfl Ab1_11 zb1 (by decide) rfl (Nat.le_of_ble_eq_true rfl) (bt_nar a b 10) ?_
    intro h12 W12 A12
    have Ab1_12 : Al Z h12 b1 .byte [.int (bt a b 0), .int (bt a b 1), .int (bt a b 2), .int (bt a b 3), .int (bt a b 4), .int (bt a b 5), .int (bt a b 6), .int (bt a b 7), .int (bt a b 8), .int (bt a b 9), .int (bt a b 10), .int (0 : Int32), .int (0 : Int32), .int (0 : Int32), .int (0 : Int32), .int (0 : Int32)] := A12
    have z12 : Z.heap.size ≤ h12.size := by rw [W12.size]; exact z11
    refine C.dup 270 at_269 rfl rfl ?_
    refine C.bipush 272 (11 : Int32) at_270 rfl rfl ?_
    refine C.lloadN 273 at_272 rfl rfl ?_
    refine C.lloadN 274 at_273 rfl rfl ?_
    refine C.bipush 276 (11 : Int32) at_274 rfl rfl ?_
    refine C.callS 279 (as := [.long a, .long b, .int (11 : Int32)]) (rest := [.int (11 : Int32), .ref b1, .ref b1]) (rm := ⟨0, 0, 0, 0⟩) 3 at_276 rfl (tw 5) (tw 6) (tw 7) (tw 8) (by decide) (byteOf l Z a0' hw h12 a b 11 (by decide)) pd1 rfl rfl (Nat.le_of_eq rfl) (by decide) (by decide) (by decide) (by decide) rfl ?_
    refine same_intro ?_
    show W h12 1 16 279 #[.val (.long a), .second, .val (.long b), .second, .val (.int sel), .val (.int pf), .val (.int pt), .val (.int sv), .val (.ref vr), .val (.int (Int32.ofNat (w))), .val (.int (Int32.ofNat (f))), .val (.int (Int32.ofNat (t))), .unset, .unset, .unset, .unset, .unset] [.int (bt a b 11), .int (11 : Int32), .ref b1, .ref b1]
    refine C.bastoreB 280 11 (bt a b 11) at_279 rfl Ab1_12 zb1 (by decide) rfl (Nat.le_of_ble_eq_true rfl) (bt_nar a b 11) ?_
    intro h13 W13 A13
    have Ab1_13 : Al Z h13 b1 .byte [.int (bt a b 0), .int (bt a b 1), .int (bt a b 2), .int (bt a b 3), .int (bt a b 4), .int (bt a b 5), .int (bt a b 6), .int (bt a b 7), .int (bt a b 8), .int (bt a b 9), .int (bt a b 10), .int (bt a b 11), .int (0 : Int32), .int (0 : Int32), .int (0 : Int32), .int (0 : Int32)] := A13
    have z13 : Z.heap.size ≤ h13.size := by rw [W13.size]; exact z12
    refine C.dup 281 at_280 rfl rfl ?_
    refine C.bipush 283 (12 : Int32) at_281 rfl rfl ?_
    refine C.lloadN 284 at_283 rfl rfl ?_
    refine C.lloadN 285 at_284 rfl rfl ?_
    refine C.bipush 287 (12 : Int32) at_285 rfl rfl ?_
    refine C.callS 290 (as := [.long a, .long b, .int (12 : Int32)]) (rest := [.int (12 : Int32), .ref b1, .ref b1]) (rm := ⟨0, 0, 0, 0⟩) 3 at_287 rfl (tw 5) (tw 6) (tw 7) (tw 8) (by decide) (byteOf l Z a0' hw h13 a b 12 (by decide)) pd1 rfl rfl (Nat.le_of_eq rfl) (by decide) (by decide) (by decide) (by decide) rfl ?_
    refine same_intro ?_
    show W h13 1 16 290 #[.val (.long a), .second, .val (.long b), .second, .val (.int sel), .val (.int pf), .val (.int pt), .val (.int sv), .val (.ref vr), .val (.int (Int32.ofNat (w))), .val (.int (Int32.ofNat (f))), .val (.int (Int32.ofNat (t))), .unset, .unset, .unset, .unset, .unset] [.int (bt a b 12), .int (12 : Int32), .ref b1, .ref b1]
    refine C.bastoreB 291 12 (bt a b 12) at_290 rfl Ab1_13 zb1 (by decide) rfl (Nat.le_of_ble_eq_true rfl) (bt_nar a b 12) ?_
    intro h14 W14 A14
    have Ab1_14 : Al Z h14 b1 .byte [.int (bt a b 0), .int (bt a b 1), .int (bt a b 2), .int (bt a b 3), .int (bt a b 4), .int (bt a b 5), .int (bt a b 6), .int (bt a b 7), .int (bt a b 8), .int (bt a b 9), .int (bt a b 10), .int (bt a b 11), .int (bt a b 12), .int (0 : Int32), .int (0 : Int32), .int (0 : Int32)] := A14
    have z14 : Z.heap.size ≤ h14.size := by rw [W14.size]; exact z13
    refine C.dup 292 at_291 rfl rfl ?_
    refine C.bipush 294 (13 : Int32) at_292 rfl rfl ?_
    refine C.lloadN 295 at_294 rfl rfl ?_
    refine C.lloadN 296 at_295 rfl rfl ?_
    refine C.bipush 298 (13 : Int32) at_296 rfl rfl ?_
    refine C.callS 301 (as := [.long a, .long b, .int (13 : Int32)]) (rest := [.int (13 : Int32), .ref b1, .ref b1]) (rm := ⟨0, 0, 0, 0⟩) 3 at_298 rfl (tw 5) (tw 6) (tw 7) (tw 8) (by decide) (byteOf l Z a0' hw h14 a b 13 (by decide)) pd1 rfl rfl (Nat.le_of_eq rfl) (by decide) (by decide) (by decide) (by decide) rfl ?_
    refine same_intro ?_
    show W h14 1 16 301 #[.val (.long a), .second, .val (.long b), .second, .val (.int sel), .val (.int pf), .val (.int pt), .val (.int sv), .val (.ref vr), .val (.int (Int32.ofNat (w))), .val (.int (Int32.ofNat (f))), .val (.int (Int32.ofNat (t))), .unset, .unset, .unset, .unset, .unset] [.int (bt a b 13), .int (13 : Int32), .ref b1, .ref b1]
    refine C.bastoreB 302 13 (bt a b 13) at_301 rfl Ab1_14 zb1 (by decide) rfl (Nat.le_of_ble_eq_true rfl) (bt_nar a b 13) ?_
    intro h15 W15 A15
    have Ab1_15 : Al Z h15 b1 .byte [.int (bt a b 0), .int (bt a b 1), .int (bt a b 2), .int (bt a b 3), .int (bt a b 4), .int (bt a b 5), .int (bt a b 6), .int (bt a b 7), .int (bt a b 8), .int (bt a b 9), .int (bt a b 10), .int (bt a b 11), .int (bt a b 12), .int (bt a b 13), .int (0 : Int32), .int (0 : Int32)] := A15
    have z15 : Z.heap.size ≤ h15.size := by rw [W15.size]; exact z14
    refine C.dup 303 at_302 rfl rfl ?_
    refine C.bipush 305 (14 : Int32) at_303 rfl rfl ?_
    refine C.lloadN 306 at_305 rfl rfl ?_
    refine C.lloadN 307 at_306 rfl rfl ?_
    refine C.bipush 309 (14 : Int32) at_307 rfl rfl ?_
    refine C.callS 312 (as := [.long a, .long b, .int (14 : Int32)]) (rest := [.int (14 : Int32), .ref b1, .ref b1]) (rm := ⟨0, 0, 0, 0⟩) 3 at_309 rfl (tw 5) (tw 6) (tw 7) (tw 8) (by decide) (byteOf l Z a0' hw h15 a b 14 (by decide)) pd1 rfl rfl (Nat.le_of_eq rfl) (by decide) (by decide) (by decide) (by decide) rfl ?_
    refine same_intro ?_
    show W h15 1 16 312 #[.val (.long a), .second, .val (.long b), .second, .val (.int sel), .val (.int pf), .val (.int pt), .val (.int sv), .val (.ref vr), .val (.int (Int32.ofNat (w))), .val (.int (Int32.ofNat (f))), .val (.int (Int32.ofNat (t))), .unset, .unset, .unset, .unset, .unset] [.int (bt a b 14), .int (14 : Int32), .ref b1, .ref b1]
    refine C.bastoreB 313 14 (bt a b 14) at_312 rfl Ab1_15 zb1 (by decide) rfl (Nat.le_of_ble_eq_true rfl) (bt_nar a b 14) ?_
    intro h16 W16 A16
    have Ab1_16 : Al Z h16 b1 .byte [.int (bt a b 0), .int (bt a b 1), .int (bt a b 2), .int (bt a b 3), .int (bt a b 4), .int (bt a b 5), .int (bt a b 6), .int (bt a b 7), .int (bt a b 8), .int (bt a b 9), .int (bt a b 10), .int (bt a b 11), .int (bt a b 12), .int (bt a b 13), .int (bt a b 14), .int (0 : Int32)] := A16
    have z16 : Z.heap.size ≤ h16.size := by rw [W16.size]; exact z15
    refine C.dup 314 at_313 rfl rfl ?_
    refine C.bipush 316 (15 : Int32) at_314 rfl rfl ?_
    refine C.lloadN 317 at_316 rfl rfl ?_
    refine C.lloadN 318 at_317 rfl rfl ?_
    refine C.bipush 320 (15 : Int32) at_318 rfl rfl ?_
    refine C.callS 323 (as := [.long a, .long b, .int (15 : Int32)]) (rest := [.int (15 : Int32), .ref b1, .ref b1]) (rm := ⟨0, 0, 0, 0⟩) 3 at_320 rfl (tw 5) (tw 6) (tw 7) (tw 8) (by decide) (byteOf l Z a0' hw h16 a b 15 (by decide)) pd1 rfl rfl (Nat.le_of_eq rfl) (by decide) (by decide) (by decide) (by decide) rfl ?_
    refine same_intro ?_
    show W h16 1 16 323 #[.val (.long a), .second, .val (.long b), .second, .val (.int sel), .val (.int pf), .val (.int pt), .val (.int sv), .val (.ref vr), .val (.int (Int32.ofNat (w))), .val (.int (Int32.ofNat (f))), .val (.int (Int32.ofNat (t))), .unset, .unset, .unset, .unset, .unset] [.int (bt a b 15), .int (15 : Int32), .ref b1, .ref b1]
    refine C.bastoreB 324 15 (bt a b 15) at_323 rfl Ab1_16 zb1 (by decide) rfl (Nat.le_of_ble_eq_true rfl) (bt_nar a b 15) ?_
    intro h17 W17 A17
    have Ab1_17 : Al Z h17 b1 .byte [.int (bt a b 0), .int (bt a b 1), .int (bt a b 2), .int (bt a b 3), .int (bt a b 4), .int (bt a b 5), .int (bt a b 6), .int (bt a b 7), .int (bt a b 8), .int (bt a b 9), .int (bt a b 10), .int (bt a b 11), .int (bt a b 12), .int (bt a b 13), .int (bt a b 14), .int (bt a b 15)] := A17
    have z17 : Z.heap.size ≤ h17.size := by rw [W17.size]; exact z16
    refine C.astore 326 #[.val (.long a), .second, .val (.long b), .second, .val (.int sel), .val (.int pf), .val (.int pt), .val (.int sv), .val (.ref vr), .val (.int (Int32.ofNat (w))), .val (.int (Int32.ofNat (f))), .val (.int (Int32.ofNat (t))), .val (.ref b1), .unset, .unset, .unset, .unset] at_324 rfl rfl rfl ?_
    refine C.bipush 328 (16 : Int32) at_326 rfl rfl ?_
    refine C.newarray 330 16 at_328 rfl (tw 4) (by decide) (by decide) (by decide) (by decide) (by decide) ?_
    intro h18 E18 A18
    obtain ⟨b18, g18⟩ : ∃ z, z = h17.size := ⟨_, rfl⟩
    rw [← g18] at A18 ⊢
    have Ab18_18 : Al Z h18 b18 .byte [.int (0 : Int32), .int (0 : Int32), .int (0 : Int32), .int (0 : Int32), .int (0 : Int32), .int (0 : Int32), .int (0 : Int32), .int (0 : Int32), .int (0 : Int32), .int (0 : Int32), .int (0 : Int32), .int (0 : Int32), .int (0 : Int32), .int (0 : Int32), .int (0 : Int32), .int (0 : Int32)] := A18
    have z18 : Z.heap.size ≤ h18.size := Nat.le_trans z17 E18.1
    have zb18 : Z.heap.size ≤ b18 := by rw [g18]; exact z17
    have Ab1_18 := Ab1_17.ext E18
    show W h18 2 32 330 #[.val (.long a), .second, .val (.long b), .second, .val (.int sel), .val (.int pf), .val (.int pt), .val (.int sv), .val (.ref vr), .val (.int (Int32.ofNat (w))), .val (.int (Int32.ofNat (f))), .val (.int (Int32.ofNat (t))), .val (.ref b1), .unset, .unset, .unset, .unset] [.ref b18]
    have ne_b1_b18 : b1 ≠ b18 := by rw [g18]; exact Nat.ne_of_lt Ab1_17.lt
    refine C.dup 331 at_330 rfl rfl ?_
    refine C.iconst 332 (0 : Int32) at_331 rfl rfl ?_
    refine C.lloadN 333 at_332 rfl rfl ?_
    refine C.lloadN 334 at_333 rfl rfl ?_
    refine C.iconst 335 (0 : Int32) at_334 rfl rfl ?_
    refine C.callS 338 (as := [.long a, .long b, .int (0 : Int32)]) (rest := [.int (0 : Int32), .ref b18, .ref b18]) (rm := ⟨0, 0, 0, 0⟩) 3 at_335 rfl (tw 5) (tw 6) (tw 7) (tw 8) (by decide) (byteOf l Z a0' hw h18 a b 0 (by decide)) pd1 rfl rfl (Nat.le_of_eq rfl) (by decide) (by decide) (by decide) (by decide) rfl ?_
    refine same_intro ?_
    show W h18 2 32 338 #[.val (.long a), .second, .val (.long b), .second, .val (.int sel), .val (.int pf), .val (.int pt), .val (.int sv), .val (.ref vr), .val (.int (Int32.ofNat (w))), .val (.int (Int32.ofNat (f))), .val (.int (Int32.ofNat (t))), .val (.ref b1), .unset, .unset, .unset, .unset] [.int (bt a b 0), .int (0 : Int32), .ref b18, .ref b18]
    refine C.bastoreB 339 0 (bt a b 0) at_338 rfl Ab18_18 zb18 (by decide) rfl (Nat.le_of_ble_eq_true rfl) (bt_nar a b 0) ?_
    intro h19 W19 A19
    have Ab18_19 : Al Z h19 b18 .byte [.int (bt a b 0), .int (0 : Int32), .int (0 : Int32), .int (0 : Int32), .int (0 : Int32), .int (0 : Int32), .int (0 : Int32), .int (0 : Int32), .int (0 : Int32), .int (0 : Int32), .int (0 : Int32), .int (0 : Int32), .int (0 : Int32), .int (0 : Int32), .int (0 : Int32), .int (0 : Int32)] := A19
    have z19 : Z.heap.size ≤ h19.size := by rw [W19.size]; exact z18
    have Ab1_19 := Ab1_18.keep (Keep.of_wr W19) (ninS ne_b1_b18 nin0)
    refine C.dup 340 at_339 rfl rfl ?_
    refine C.iconst 341 (1 : Int32) at_340 rfl rfl ?_
    refine C.lloadN 342 at_341 rfl rfl ?_
    refine C.lloadN 343 at_342 rfl rfl ?_
    refine C.iconst 344 (1 : Int32) at_343 rfl rfl ?_
    refine C.callS 347 (as := [.long a, .long b, .int (1 : Int32)]) (rest := [.int (1 : Int32), .ref b18, .ref b18]) (rm := ⟨0, 0, 0, 0⟩) 3 at_344 rfl (tw 5) (tw 6) (tw 7) (tw 8) (by decide) (byteOf l Z a0' hw h19 a b 1 (by decide)) pd1 rfl rfl (Nat.le_of_eq rfl) (by decide) (by decide) (by decide) (by decide) rfl ?_
    refine same_intro ?_
    show W h19 2 32 347 #[.val (.long a), .second, .val (.long b), .second, .val (.int sel), .val (.int pf), .val (.int pt), .val (.int sv), .val (.ref vr), .val (.int (Int32.ofNat (w))), .val (.int (Int32.ofNat (f))), .val (.int (Int32.ofNat (t))), .val (.ref b1), .unset, .unset, .unset, .unset] [.int (bt a b 1), .int (1 : Int32), .ref b18, .ref b18]
    refine C.bastoreB 348 1 (bt a b 1) at_347 rfl Ab18_19 zb18 (by decide) rfl (Nat.le_of_ble_eq_true rfl) (bt_nar a b 1) ?_
    intro h20 W20 A20
    have Ab18_20 : Al Z h20 b18 .byte [.int (bt a b 0), .int (bt a b 1), .int (0 : Int32), .int (0 : Int32), .int (0 : Int32), .int (0 : Int32), .int (0 : Int32), .int (0 : Int32), .int (0 : Int32), .int (0 : Int32), .int (0 : Int32), .int (0 : Int32), .int (0 : Int32), .int (0 : Int32), .int (0 : Int32), .int (0 : Int32)] := A20
    have z20 : Z.heap.size ≤ h20.size := by rw [W20.size]; exact z19
    have Ab1_20 := Ab1_19.keep (Keep.of_wr W20) (ninS ne_b1_b18 nin0)
    refine C.dup 349 at_348 rfl rfl ?_
    refine C.iconst 350 (2 : Int32) at_349 rfl rfl ?_
    refine C.lloadN 351 at_350 rfl rfl ?_
    refine C.lloadN 352 at_351 rfl rfl ?_
    refine C.iconst 353 (2 : Int32) at_352 rfl rfl ?_
    refine C.callS 356 (as := [.long a, .long b, .int (2 : Int32)]) (rest := [.int (2 : Int32), .ref b18, .ref b18]) (rm := ⟨0, 0, 0, 0⟩) 3 at_353 rfl (tw 5) (tw 6) (tw 7) (tw 8) (by decide) (byteOf l Z a0' hw h20 a b 2 (by decide)) pd1 rfl rfl (Nat.le_of_eq rfl) (by decide) (by decide) (by decide) (by decide) rfl ?_
    refine same_intro ?_
    show W h20 2 32 356 #[.val (.long a), .second, .val (.long b), .second, .val (.int sel), .val (.int pf), .val (.int pt), .val (.int sv), .val (.ref vr), .val (.int (Int32.ofNat (w))), .val (.int (Int32.ofNat (f))), .val (.int (Int32.ofNat (t))), .val (.ref b1), .unset, .unset, .unset, .unset] [.int (bt a b 2), .int (2 : Int32), .ref b18, .ref b18]
    refine C.bastoreB 357 2 (bt a b 2) at_356 rfl Ab18_20 zb18 (by decide) rfl (Nat.le_of_ble_eq_true rfl) (bt_nar a b 2) ?_
    intro h21 W21 A21
    have Ab18_21 : Al Z h21 b18 .byte [.int (bt a b 0), .int (bt a b 1), .int (bt a b 2), .int (0 : Int32), .int (0 : Int32), .int (0 : Int32), .int (0 : Int32), .int (0 : Int32), .int (0 : Int32), .int (0 : Int32), .int (0 : Int32), .int (0 : Int32), .int (0 : Int32), .int (0 : Int32), .int (0 : Int32), .int (0 : Int32)] := A21
    have z21 : Z.heap.size ≤ h21.size := by rw [W21.size]; exact z20
    have Ab1_21 := Ab1_20.keep (Keep.of_wr W21) (ninS ne_b1_b18 nin0)
    refine C.dup 358 at_357 rfl rfl ?_
    refine C.iconst 359 (3 : Int32) at_358 rfl rfl ?_
    refine C.lloadN 360 at_359 rfl rfl ?_
    refine C.lloadN 361 at_360 rfl rfl ?_
    refine C.iconst 362 (3 : Int32) at_361 rfl rfl ?_
    refine C.callS 365 (as := [.long a, .long b, .int (3 : Int32)]) (rest := [.int (3 : Int32), .ref b18, .ref b18]) (rm := ⟨0, 0, 0, 0⟩) 3 at_362 rfl (tw 5) (tw 6) (tw 7) (tw 8) (by decide) (byteOf l Z a0' hw h21 a b 3 (by decide)) pd1 rfl rfl (Nat.le_of_eq rfl) (by decide) (by decide) (by decide) (by decide) rfl ?_
    refine same_intro ?_
    show W h21 2 32 365 #[.val (.long a), .second, .val (.long b), .second, .val (.int sel), .val (.int pf), .val (.int pt), .val (.int sv), .val (.ref vr), .val (.int (Int32.ofNat (w))), .val (.int (Int32.ofNat (f))), .val (.int (Int32.ofNat (t))), .val (.ref b1), .unset, .unset, .unset, .unset] [.int (bt a b 3), .int (3 : Int32), .ref b18, .ref b18]
    refine C.bastoreB 366 3 (bt a b 3) at_365 rfl Ab18_21 zb18 (by decide) rfl (Nat.le_of_ble_eq_true rfl) (bt_nar a b 3) ?_
    intro h22 W22 A22
    have Ab18_22 : Al Z h22 b18 .byte [.int (bt a b 0), .int (bt a b 1), .int (bt a b 2), .int (bt a b 3), .int (0 : Int32), .int (0 : Int32), .int (0 : Int32), .int (0 : Int32), .int (0 : Int32), .int (0 : Int32), .int (0 : Int32), .int (0 : Int32), .int (0 : Int32), .int (0 : Int32), .int (0 : Int32), .int (0 : Int32)] := A22
    have z22 : Z.heap.size ≤ h22.size := by rw [W22.size]; exact z21
    have Ab1_22 := Ab1_21.keep (Keep.of_wr W22) (ninS ne_b1_b18 nin0)
    refine C.dup 367 at_366 rfl rfl ?_
    refine C.iconst 368 (4 : Int32) at_367 rfl rfl ?_
    refine C.lloadN 369 at_368 rfl rfl ?_
    refine C.lloadN 370 at_369 rfl rfl ?_
    refine C.iconst 371 (4 : Int32) at_370 rfl rfl ?_
    refine C.callS 374 (as := [.long a, .long b, .int (4 : Int32)]) (rest := [.int (4 : Int32), .ref b18, .ref b18]) (rm := ⟨0, 0, 0, 0⟩) 3 at_371 rfl (tw 5) (tw 6) (tw 7) (tw 8) (by decide) (byteOf l Z a0' hw h22 a b 4 (by decide)) pd1 rfl rfl (Nat.le_of_eq rfl) (by decide) (by decide) (by decide) (by decide) rfl ?_
    refine same_intro ?_
    show W h22 2 32 374 #[.val (.long a), .second, .val (.long b), .second, .val (.int sel), .val (.int pf), .val (.int pt), .val (.int sv), .val (.ref vr), .val (.int (Int32.ofNat (w))), .val (.int (Int32.ofNat (f))), .val (.int (Int32.ofNat (t))), .val (.ref b1), .unset, .unset, .unset, .unset] [.int (bt a b 4), .int (4 : Int32), .ref b18, .ref b18]
    refine C.bastoreB 375 4 (bt a b 4) at_374 rfl Ab18_22 zb18 (by decide) rfl (Nat.le_of_ble_eq_true rfl) (bt_nar a b 4) ?_
    intro h23 W23 A23
    have Ab18_23 : Al Z h23 b18 .byte [.int (bt a b 0), .int (bt a b 1), .int (bt a b 2), .int (bt a b 3), .int (bt a b 4), .int (0 : Int32), .int (0 : Int32), .int (0 : Int32), .int (0 : Int32), .int (0 : Int32), .int (0 : Int32), .int (0 : Int32), .int (0 : Int32), .int (0 : Int32), .int (0 : Int32), .int (0 : Int32)] := A23
    have z23 : Z.heap.size ≤ h23.size := by rw [W23.size]; exact z22
    have Ab1_23 := Ab1_22.keep (Keep.of_wr W23) (ninS ne_b1_b18 nin0)
    refine C.dup 376 at_375 rfl rfl ?_
    refine C.iconst 377 (5 : Int32) at_376 rfl rfl ?_
    refine C.lloadN 378 at_377 rfl rfl ?_
    refine C.lloadN 379 at_378 rfl rfl ?_
    refine C.iconst 380 (5 : Int32) at_379 rfl rfl ?_
    refine C.callS 383 (as := [.long a, .long b, .int (5 : Int32)]) (rest := [.int (5 : Int32), .ref b18, .ref b18]) (rm := ⟨0, 0, 0, 0⟩) 3 at_380 rfl (tw 5) (tw 6) (tw 7) (tw 8) (by decide) (byteOf l Z a0' hw h23 a b 5 (by decide)) pd1 rfl rfl (Nat.le_of_eq rfl) (by decide) (by decide) (by decide) (by decide) rfl ?_
    refine same_intro ?_
    show W h23 2 32 383 #[.val (.long a), .second, .val (.long b), .second, .val (.int sel), .val (.int pf), .val (.int pt), .val (.int sv), .val (.ref vr), .val (.int (Int32.ofNat (w))), .val (.int (Int32.ofNat (f))), .val (.int (Int32.ofNat (t))), .val (.ref b1), .unset, .unset, .unset, .unset] [.int (bt a b 5), .int (5 : Int32), .ref b18, .ref b18]
    refine C.bastoreB 384 5 (bt a b 5) at_383 rfl Ab18_23 zb18 (by decide) rfl (Nat.le_of_ble_eq_true rfl) (bt_nar a b 5) ?_
    intro h24 W24 A24
    have Ab18_24 : Al Z h24 b18 .byte [.int (bt a b 0), .int (bt a b 1), .int (bt a b 2), .int (bt a b 3), .int (bt a b 4), .int (bt a b 5), .int (0 : Int32), .int (0 : Int32), .int (0 : Int32), .int (0 : Int32), .int (0 : Int32), .int (0 : Int32), .int (0 : Int32), .int (0 : Int32), .int (0 : Int32), .int (0 : Int32)] := A24
    have z24 : Z.heap.size ≤ h24.size := by rw [W24.size]; exact z23
    have Ab1_24 := Ab1_23.keep (Keep.of_wr W24) (ninS ne_b1_b18 nin0)
    refine C.dup 385 at_384 rfl rfl ?_
    refine C.bipush 387 (6 : Int32) at_385 rfl rfl ?_
    refine C.lloadN 388 at_387 rfl rfl ?_
    refine C.lloadN 389 at_388 rfl rfl ?_
    refine C.bipush 391 (6 : Int32) at_389 rfl rfl ?_
    refine C.callS 394 (as := [.long a, .long b, .int (6 : Int32)]) (rest := [.int (6 : Int32), .ref b18, .ref b18]) (rm := ⟨0, 0, 0, 0⟩) 3 at_391 rfl (tw 5) (tw 6) (tw 7) (tw 8) (by decide) (byteOf l Z a0' hw h24 a b 6 (by decide)) pd1 rfl rfl (Nat.le_of_eq rfl) (by decide) (by decide) (by decide) (by decide) rfl ?_
    refine same_intro ?_
    show W h24 2 32 394 #[.val (.long a), .second, .val (.long b), .second, .val (.int sel), .val (.int pf), .val (.int pt), .val (.int sv), .val (.ref vr), .val (.int (Int32.ofNat (w))), .val (.int (Int32.ofNat (f))), .val (.int (Int32.ofNat (t))), .val (.ref b1), .unset, .unset, .unset, .unset] [.int (bt a b 6), .int (6 : Int32), .ref b18, .ref b18]
    refine C.bastoreB 395 6 (bt a b 6) at_394 rfl Ab18_24 zb18 (by decide) rfl (Nat.le_of_ble_eq_true rfl) (bt_nar a b 6) ?_
    intro h25 W25 A25
    have Ab18_25 : Al Z h25 b18 .byte [.int (bt a b 0), .int (bt a b 1), .int (bt a b 2), .int (bt a b 3), .int (bt a b 4), .int (bt a b 5), .int (bt a b 6), .int (0 : Int32), .int (0 : Int32), .int (0 : Int32), .int (0 : Int32), .int (0 : Int32), .int (0 : Int32), .int (0 : Int32), .int (0 : Int32), .int (0 : Int32)] := A25
    have z25 : Z.heap.size ≤ h25.size := by rw [W25.size]; exact z24
    have Ab1_25 := Ab1_24.keep (Keep.of_wr W25) (ninS ne_b1_b18 nin0)
    refine C.dup 396 at_395 rfl rfl ?_
    refine C.bipush 398 (7 : Int32) at_396 rfl rfl ?_
    refine C.lloadN 399 at_398 rfl rfl ?_
    refine C.lloadN 400 at_399 rfl rfl ?_
    refine C.bipush 402 (7 : Int32) at_400 rfl rfl ?_
    refine C.callS 405 (as := [.long a, .long b, .int (7 : Int32)]) (rest := [.int (7 : Int32), .ref b18, .ref b18]) (rm := ⟨0, 0, 0, 0⟩) 3 at_402 rfl (tw 5) (tw 6) (tw 7) (tw 8) (by decide) (byteOf l Z a0' hw h25 a b 7 (by decide)) pd1 rfl rfl (Nat.le_of_eq rfl) (by decide) (by decide) (by decide) (by decide) rfl ?_
    refine same_intro ?_
    show W h25 2 32 405 #[.val (.long a), .second, .val (.long b), .second, .val (.int sel), .val (.int pf), .val (.int pt), .val (.int sv), .val (.ref vr), .val (.int (Int32.ofNat (w))), .val (.int (Int32.ofNat (f))), .val (.int (Int32.ofNat (t))), .val (.ref b1), .unset, .unset, .unset, .unset] [.int (bt a b 7), .int (7 : Int32), .ref b18, .ref b18]
    refine C.bastoreB 406 7 (bt a b 7) at_405 rfl Ab18_25 zb18 (by decide) rfl (Nat.le_of_ble_eq_true rfl) (bt_nar a b 7) ?_
    intro h26 W26 A26
    have Ab18_26 : Al Z h26 b18 .byte [.int (bt a b 0), .int (bt a b 1), .int (bt a b 2), .int (bt a b 3), .int (bt a b 4), .int (bt a b 5), .int (bt a b 6), .int (bt a b 7), .int (0 : Int32), .int (0 : Int32), .int (0 : Int32), .int (0 : Int32), .int (0 : Int32), .int (0 : Int32), .int (0 : Int32), .int (0 : Int32)] := A26
    have z26 : Z.heap.size ≤ h26.size := by rw [W26.size]; exact z25
    have Ab1_26 := Ab1_25.keep (Keep.of_wr W26) (ninS ne_b1_b18 nin0)
    refine C.dup 407 at_406 rfl rfl ?_
    refine C.bipush 409 (8 : Int32) at_407 rfl rfl ?_
    refine C.lloadN 410 at_409 rfl rfl ?_
    refine C.lloadN 411 at_410 rfl rfl ?_
    refine C.bipush 413 (8 : Int32) at_411 rfl rfl ?_
    refine C.callS 416 (as := [.long a, .long b, .int (8 : Int32)]) (rest := [.int (8 : Int32), .ref b18, .ref b18]) (rm := ⟨0, 0, 0, 0⟩) 3 at_413 rfl (tw 5) (tw 6) (tw 7) (tw 8) (by decide) (byteOf l Z a0' hw h26 a b 8 (by decide)) pd1 rfl rfl (Nat.le_of_eq rfl) (by decide) (by decide) (by decide) (by decide) rfl ?_
    refine same_intro ?_
    show W h26 2 32 416 #[.val (.long a), .second, .val (.long b), .second, .val (.int sel), .val (.int pf), .val (.int pt), .val (.int sv), .val (.ref vr), .val (.int (Int32.ofNat (w))), .val (.int (Int32.ofNat (f))), .val (.int (Int32.ofNat (t))), .val (.ref b1), .unset, .unset, .unset, .unset] [.int (bt a b 8), .int (8 : Int32), .ref b18, .ref b18]
    refine C.bastoreB 417 8 (bt a b 8) at_416 rfl Ab18_26 zb18 (by decide) rfl (Nat.le_of_ble_eq_true rfl) (bt_nar a b 8) ?_
    intro h27 W27 A27
    have Ab18_27 : Al Z h27 b18 .byte [.int (bt a b 0), .int (bt a b 1), .int (bt a b 2), .int (bt a b 3), .int (bt a b 4), .int (bt a b 5), .int (bt a b 6), .int (bt a b 7), .int (bt a b 8), .int (0 : Int32), .int (0 : Int32), .int (0 : Int32), .int (0 : Int32), .int (0 : Int32), .int (0 : Int32), .int (0 : Int32)] := A27
    have z27 : Z.heap.size ≤ h27.size := by rw [W27.size]; exact z26
    have Ab1_27 := Ab1_26.keep (Keep.of_wr W27) (ninS ne_b1_b18 nin0)
    refine C.dup 418 at_417 rfl rfl ?_
    refine C.bipush 420 (9 : Int32) at_418 rfl rfl ?_
    refine C.lloadN 421 at_420 rfl rfl ?_
    refine C.lloadN 422 at_421 rfl rfl ?_
    refine C.bipush 424 (9 : Int32) at_422 rfl rfl ?_
    refine C.callS 427 (as := [.long a, .long b, .int (9 : Int32)]) (rest := [.int (9 : Int32), .ref b18, .ref b18]) (rm := ⟨0, 0, 0, 0⟩) 3 at_424 rfl (tw 5) (tw 6) (tw 7) (tw 8) (by decide) (byteOf l Z a0' hw h27 a b 9 (by decide)) pd1 rfl rfl (Nat.le_of_eq rfl) (by decide) (by decide) (by decide) (by decide) rfl ?_
    refine same_intro ?_
    show W h27 2 32 427 #[.val (.long a), .second, .val (.long b), .second, .val (.int sel), .val (.int pf), .val (.int pt), .val (.int sv), .val (.ref vr), .val (.int (Int32.ofNat (w))), .val (.int (Int32.ofNat (f))), .val (.int (Int32.ofNat (t))), .val (.ref b1), .unset, .unset, .unset, .unset] [.int (bt a b 9), .int (9 : Int32), .ref b18, .ref b18]
    refine C.bastoreB 428 9 (bt a b 9) at_427 rfl Ab18_27 zb18 (by decide) rfl (Nat.le_of_ble_eq_true rfl) (bt_nar a b 9) ?_
    intro h28 W28 A28
    have Ab18_28 : Al Z h28 b18 .byte [.int (bt a b 0), .int (bt a b 1), .int (bt a b 2), .int (bt a b 3), .int (bt a b 4), .int (bt a b 5), .int (bt a b 6), .int (bt a b 7), .int (bt a b 8), .int (bt a b 9), .int (0 : Int32), .int (0 : Int32), .int (0 : Int32), .int (0 : Int32), .int (0 : Int32), .int (0 : Int32)] := A28
    have z28 : Z.heap.size ≤ h28.size := by rw [W28.size]; exact z27
    have Ab1_28 := Ab1_27.keep (Keep.of_wr W28) (ninS ne_b1_b18 nin0)
    refine C.dup 429 at_428 rfl rfl ?_
    refine C.bipush 431 (10 : Int32) at_429 rfl rfl ?_
    refine C.lloadN 432 at_431 rfl rfl ?_
    refine C.lloadN 433 at_432 rfl rfl ?_
    refine C.bipush 435 (10 : Int32) at_433 rfl rfl ?_
    refine C.callS 438 (as := [.long a, .long b, .int (10 : Int32)]) (rest := [.int (10 : Int32), .ref b18, .ref b18]) (rm := ⟨0, 0, 0, 0⟩) 3 at_435 rfl (tw 5) (tw 6) (tw 7) (tw 8) (by decide) (byteOf l Z a0' hw h28 a b 10 (by decide)) pd1 rfl rfl (Nat.le_of_eq rfl) (by decide) (by decide) (by decide) (by decide) rfl ?_
    refine same_intro ?_
    show W h28 2 32 438 #[.val (.long a), .second, .val (.long b), .second, .val (.int sel), .val (.int pf), .val (.int pt), .val (.int sv), .val (.ref vr), .val (.int (Int32.ofNat (w))), .val (.int (Int32.ofNat (f))), .val (.int (Int32.ofNat (t))), .val (.ref b1), .unset, .unset, .unset, .unset] [.int (bt a b 10), .int (10 : Int32), .ref b18, .ref b18]
    refine C.bastoreB 439 10 (bt a b 10) at_438 rfl Ab18_28 zb18 (by decide) rfl (Nat.le_of_ble_eq_true rfl) (bt_nar a b 10) ?_
    intro h29 W29 A29
    have Ab18_29 : Al Z h29 b18 .byte [.int (bt a b 0), .int (bt a b 1), .int (bt a b 2), .int (bt a b 3), .int (bt a b 4), .int (bt a b 5), .int (bt a b 6), .int (bt a b 7), .int (bt a b 8), .int (bt a b 9), .int (bt a b 10), .int (0 : Int32), .int (0 : Int32), .int (0 : Int32), .int (0 : Int32), .int (0 : Int32)] := A29
    have z29 : Z.heap.size ≤ h29.size := by rw [W29.size]; exact z28
    have Ab1_29 := Ab1_28.keep (Keep.of_wr W29) (ninS ne_b1_b18 nin0)
    refine C.dup 440 at_439 rfl rfl ?_
    refine C.bipush 442 (11 : Int32) at_440 rfl rfl ?_
    refine C.lloadN 443 at_442 rfl rfl ?_
    refine C.lloadN 444 at_443 rfl rfl ?_
    refine C.bipush 446 (11 : Int32) at_444 rfl rfl ?_
    refine C.callS 449 (as := [.long a, .long b, .int (11 : Int32)]) (rest := [.int (11 : Int32), .ref b18, .ref b18]) (rm := ⟨0, 0, 0, 0⟩) 3 at_446 rfl (tw 5) (tw 6) (tw 7) (tw 8) (by decide) (byteOf l Z a0' hw h29 a b 11 (by decide)) pd1 rfl rfl (Nat.le_of_eq rfl) (by decide) (by decide) (by decide) (by decide) rfl ?_
    refine same_intro ?_
    show W h29 2 32 449 #[.val (.long a), .second, .val (.long b), .second, .val (.int sel), .val (.int pf), .val (.int pt), .val (.int sv), .val (.ref vr), .val (.int (Int32.ofNat (w))), .val (.int (Int32.ofNat (f))), .val (.int (Int32.ofNat (t))), .val (.ref b1), .unset, .unset, .unset, .unset] [.int (bt a b 11), .int (11 : Int32), .ref b18, .ref b18]
    refine C.bastoreB 450 11 (bt a b 11) at_449 rfl Ab18_29 zb18 (by decide) rfl (Nat.le_of_ble_eq_true rfl) (bt_nar a b 11) ?_
    intro h30 W30 A30
    have Ab18_30 : Al Z h30 b18 .byte [.int (bt a b 0), .int (bt a b 1), .int (bt a b 2), .int (bt a b 3), .int (bt a b 4), .int (bt a b 5), .int (bt a b 6), .int (bt a b 7), .int (bt a b 8), .int (bt a b 9), .int (bt a b 10), .int (bt a b 11), .int (0 : Int32), .int (0 : Int32), .int (0 : Int32), .int (0 : Int32)] := A30
    have z30 : Z.heap.size ≤ h30.size := by rw [W30.size]; exact z29
    have Ab1_30 := Ab1_29.keep (Keep.of_wr W30) (ninS ne_b1_b18 nin0)
    refine C.dup 451 at_450 rfl rfl ?_
    refine C.bipush 453 (12 : Int32) at_451 rfl rfl ?_
    refine C.lloadN 454 at_453 rfl rfl ?_
    refine C.lloadN 455 at_454 rfl rfl ?_
    refine C.bipush 457 (12 : Int32) at_455 rfl rfl ?_
    refine C.callS 460 (as := [.long a, .long b, .int (12 : Int32)]) (rest := [.int (12 : Int32), .ref b18, .ref b18]) (rm := ⟨0, 0, 0, 0⟩) 3 at_457 rfl (tw 5) (tw 6) (tw 7) (tw 8) (by decide) (byteOf l Z a0' hw h30 a b 12 (by decide)) pd1 rfl rfl (Nat.le_of_eq rfl) (by decide) (by decide) (by decide) (by decide) rfl ?_
    refine same_intro ?_
    show W h30 2 32 460 #[.val (.long a), .second, .val (.long b), .second, .val (.int sel), .val (.int pf), .val (.int pt), .val (.int sv), .val (.ref vr), .val (.int (Int32.ofNat (w))), .val (.int (Int32.ofNat (f))), .val (.int (Int32.ofNat (t))), .val (.ref b1), .unset, .unset, .unset, .unset] [.int (bt a b 12), .int (12 : Int32), .ref b18, .ref b18]
    refine C.bastoreB 461 12 (bt a b 12) at_460 rfl Ab18_30 zb18 (by decide) rfl (Nat.le_of_ble_eq_true rfl) (bt_nar a b 12) ?_
    intro h31 W31 A31
    have Ab18_31 : Al Z h31 b18 .byte [.int (bt a b 0), .int (bt a b 1), .int (bt a b 2), .int (bt a b 3), .int (bt a b 4), .int (bt a b 5), .int (bt a b 6), .int (bt a b 7), .int (bt a b 8), .int (bt a b 9), .int (bt a b 10), .int (bt a b 11), .int (bt a b 12), .int (0 : Int32), .int (0 : Int32), .int (0 : Int32)] := A31
    have z31 : Z.heap.size ≤ h31.size := by rw [W31.size]; exact z30
    have Ab1_31 := Ab1_30.keep (Keep.of_wr W31) (ninS ne_b1_b18 nin0)
    refine C.dup 462 at_461 rfl rfl ?_
    refine C.bipush 464 (13 : Int32) at_462 rfl rfl ?_
    refine C.lloadN 465 at_464 rfl rfl ?_
    refine C.lloadN 466 at_465 rfl rfl ?_
    refine C.bipush 468 (13 : Int32) at_466 rfl rfl ?_
    refine C.callS 471 (as := [.long a, .long b, .int (13 : Int32)]) (rest := [.int (13 : Int32), .ref b18, .ref b18]) (rm := ⟨0, 0, 0, 0⟩) 3 at_468 rfl (tw 5) (tw 6) (tw 7) (tw 8) (by decide) (byteOf l Z a0' hw h31 a b 13 (by decide)) pd1 rfl rfl (Nat.le_of_eq rfl) (by decide) (by decide) (by decide) (by decide) rfl ?_
    refine same_intro ?_
    show W h31 2 32 471 #[.val (.long a), .second, .val (.long b), .second, .val (.int sel), .val (.int pf), .val (.int pt), .val (.int sv), .val (.ref vr), .val (.int (Int32.ofNat (w))), .val (.int (Int32.ofNat (f))), .val (.int (Int32.ofNat (t))), .val (.ref b1), .unset, .unset, .unset, .unset] [.int (bt a b 13), .int (13 : Int32), .ref b18, .ref b18]
    refine C.bastoreB 472 13 (bt a b 13) at_471 rfl Ab18_31 zb18 (by decide) rfl (Nat.le_of_ble_eq_true rfl) (bt_nar a b 13) ?_
    intro h32 W32 A32
    have Ab18_32 : Al Z h32 b18 .byte [.int (bt a b 0), .int (bt a b 1), .int (bt a b 2), .int (bt a b 3), .int (bt a b 4), .int (bt a b 5), .int (bt a b 6), .int (bt a b 7), .int (bt a b 8), .int (bt a b 9), .int (bt a b 10), .int (bt a b 11), .int (bt a b 12), .int (bt a b 13), .int (0 : Int32), .int (0 : Int32)] := A32
    have z32 : Z.heap.size ≤ h32.size := by rw [W32.size]; exact z31
    have Ab1_32 := Ab1_31.keep (Keep.of_wr W32) (ninS ne_b1_b18 nin0)
    refine C.dup 473 at_472 rfl rfl ?_
    refine C.bipush 475 (14 : Int32) at_473 rfl rfl ?_
    refine C.lloadN 476 at_475 rfl rfl ?_
    refine C.lloadN 477 at_476 rfl rfl ?_
    refine C.bipush 479 (14 : Int32) at_477 rfl rfl ?_
    refine C.callS 482 (as := [.long a, .long b, .int (14 : Int32)]) (rest := [.int (14 : Int32), .ref b18, .ref b18]) (rm := ⟨0, 0, 0, 0⟩) 3 at_479 rfl (tw 5) (tw 6) (tw 7) (tw 8) (by decide) (byteOf l Z a0' hw h32 a b 14 (by decide)) pd1 rfl rfl (Nat.le_of_eq rfl) (by decide) (by decide) (by decide) (by decide) rfl ?_
    refine same_intro ?_
    show W h32 2 32 482 #[.val (.long a), .second, .val (.long b), .second, .val (.int sel), .val (.int pf), .val (.int pt), .val (.int sv), .val (.ref vr), .val (.int (Int32.ofNat (w))), .val (.int (Int32.ofNat (f))), .val (.int (Int32.ofNat (t))), .val (.ref b1), .unset, .unset, .unset, .unset] [.int (bt a b 14), .int (14 : Int32), .ref b18, .ref b18]
    refine C.bastoreB 483 14 (bt a b 14) at_482 rfl Ab18_32 zb18 (by decide) rfl (Nat.le_of_ble_eq_true rfl) (bt_nar a b 14) ?_
    intro h33 W33 A33
    have Ab18_33 : Al Z h33 b18 .byte [.int (bt a b 0), .int (bt a b 1), .int (bt a b 2), .int (bt a b 3), .int (bt a b 4), .int (bt a b 5), .int (bt a b 6), .int (bt a b 7), .int (bt a b 8), .int (bt a b 9), .int (bt a b 10), .int (bt a b 11), .int (bt a b 12), .int (bt a b 13), .int (bt a b 14), .int (0 : Int32)] := A33
    have z33 : Z.heap.size ≤ h33.size := by rw [W33.size]; exact z32
    have Ab1_33 := Ab1_32.keep (Keep.of_wr W33) (ninS ne_b1_b18 nin0)
    refine C.dup 484 at_483 rfl rfl ?_
    refine C.bipush 486 (15 : Int32) at_484 rfl rfl ?_
    refine C.lloadN 487 at_486 rfl rfl ?_
    refine C.lloadN 488 at_487 rfl rfl ?_
    refine C.bipush 490 (15 : Int32) at_488 rfl rfl ?_
    refine C.callS 493 (as := [.long a, .long b, .int (15 : Int32)]) (rest := [.int (15 : Int32), .ref b18, .ref b18]) (rm := ⟨0, 0, 0, 0⟩) 3 at_490 rfl (tw 5) (tw 6) (tw 7) (tw 8) (by decide) (byteOf l Z a0' hw h33 a b 15 (by decide)) pd1 rfl rfl (Nat.le_of_eq rfl) (by decide) (by decide) (by decide) (by decide) rfl ?_
    refine same_intro ?_
    show W h33 2 32 493 #[.val (.long a), .second, .val (.long b), .second, .val (.int sel), .val (.int pf), .val (.int pt), .val (.int sv), .val (.ref vr), .val (.int (Int32.ofNat (w))), .val (.int (Int32.ofNat (f))), .val (.int (Int32.ofNat (t))), .val (.ref b1), .unset, .unset, .unset, .unset] [.int (bt a b 15), .int (15 : Int32), .ref b18, .ref b18]
    refine C.bastoreB 494 15 (bt a b 15) at_493 rfl Ab18_33 zb18 (by decide) rfl (Nat.le_of_ble_eq_true rfl) (bt_nar a b 15) ?_
    intro h34 W34 A34
    have Ab18_34 : Al Z h34 b18 .byte [.int (bt a b 0), .int (bt a b 1), .int (bt a b 2), .int (bt a b 3), .int (bt a b 4), .int (bt a b 5), .int (bt a b 6), .int (bt a b 7), .int (bt a b 8), .int (bt a b 9), .int (bt a b 10), .int (bt a b 11), .int (bt a b 12), .int (bt a b 13), .int (bt a b 14), .int (bt a b 15)] := A34
    have z34 : Z.heap.size ≤ h34.size := by rw [W34.size]; exact z33
    have Ab1_34 := Ab1_33.keep (Keep.of_wr W34) (ninS ne_b1_b18 nin0)
    refine C.astore 496 #[.val (.long a), .second, .val (.long b), .second, .val (.int sel), .val (.int pf), .val (.int pt), .val (.int sv), .val (.ref vr), .val (.int (Int32.ofNat (w))), .val (.int (Int32.ofNat (f))), .val (.int (Int32.ofNat (t))), .val (.ref b1), .val (.ref b18), .unset, .unset, .unset] at_494 rfl rfl rfl ?_
    have Ao : Al Z h34 b1 .byte ((List.range 16).map fun i => .int (bt a b i)) := Ab1_34
    have Aa : Al Z h34 b18 .byte ((List.range 16).map fun i => .int (bt a b i)) := Ab18_34
    have hx := z34
    clear ef et
    refine C.aload 498 at_496 rfl rfl rfl ?_
    refine C.aload 500 at_498 rfl rfl rfl ?_
    refine C.iload 502 at_500 rfl rfl ?_
    refine C.iload 504 at_502 rfl rfl ?_
    have J507 : ∀ h : Heap, Al Z h b1 .byte ((List.range 16).map fun i => .int (bt a b i)) → Al Z h b18 .byte [.int (bt a b (perm f (f + (t - f) / w * w) w 0)), .int (bt a b (perm f (f + (t - f) / w * w) w 1)), .int (bt a b (perm f (f + (t - f) / w * w) w 2)), .int (bt a b (perm f (f + (t - f) / w * w) w 3)), .int (bt a b (perm f (f + (t - f) / w * w) w 4)), .int (bt a b (perm f (f + (t - f) / w * w) w 5)), .int (bt a b (perm f (f + (t - f) / w * w) w 6)), .int (bt a b (perm f (f + (t - f) / w * w) w 7)), .int (bt a b (perm f (f + (t - f) / w * w) w 8)), .int (bt a b (perm f (f + (t - f) / w * w) w 9)), .int (bt a b (perm f (f + (t - f) / w * w) w 10)), .int (bt a b (perm f (f + (t - f) / w * w) w 11)), .int (bt a b (perm f (f + (t - f) / w * w) w 12)), .int (bt a b (perm f (f + (t - f) / w * w) w 13)), .int (bt a b (perm f (f + (t - f) / w * w) w 14)), .int (bt a b (perm f (f + (t - f) / w * w) w 15))] → W h 2 32 507 #[.val (.long a), .second, .val (.long b), .second, .val (.int sel), .val (.int pf), .val (.int pt), .val (.int sv), .val (.ref vr), .val (.int (Int32.ofNat (w))), .val (.int (Int32.ofNat (f))), .val (.int (Int32.ofNat (t))), .val (.ref b1), .val (.ref b18), .unset, .unset, .unset] [] := by
      intro h Ao Aa
      have J526 : W h 2 32 526 #[.val (.long a), .second, .val (.long b), .second, .val (.int sel), .val (.int pf), .val (.int pt), .val (.int sv), .val (.ref vr), .val (.int (Int32.ofNat (w))), .val (.int (Int32.ofNat (f))), .val (.int (Int32.ofNat (t))), .val (.ref b1), .val (.ref b18), .unset, .unset, .unset] [.int (Int32.ofNat ((t - f) / w))] := by
        refine C.istore 528 #[.val (.long a), .second, .val (.long b), .second, .val (.int sel), .val (.int pf), .val (.int pt), .val (.int sv), .val (.ref vr), .val (.int (Int32.ofNat (w))), .val (.int (Int32.ofNat (f))), .val (.int (Int32.ofNat (t))), .val (.ref b1), .val (.ref b18), .val (.int (Int32.ofNat ((t - f) / w))), .unset, .unset] at_526 rfl rfl ?_
        refine C.iload 530 at_528 rfl rfl ?_
        refine C.iload 532 at_530 rfl rfl ?_
        refine C.iload 534 at_532 rfl rfl ?_
        refine C.imul 535 at_534 rfl ?_
        rw [o_mul]
        refine C.iadd 536 at_535 rfl ?_
        rw [o_add]
        refine C.istore 538 #[.val (.long a), .second, .val (.long b), .second, .val (.int sel), .val (.int pf), .val (.int pt), .val (.int sv), .val (.ref vr), .val (.int (Int32.ofNat (w))), .val (.int (Int32.ofNat (f))), .val (.int (Int32.ofNat (t))), .val (.ref b1), .val (.ref b18), .val (.int (Int32.ofNat ((t - f) / w))), .val (.int (Int32.ofNat (f + (t - f) / w * w))), .unset] at_536 rfl rfl ?_
        refine C.iconst 539 (1 : Int32) at_538 rfl rfl ?_
        refine C.istore 541 #[.val (.long a), .second, .val (.long b), .second, .val (.int sel), .val (.int pf), .val (.int pt), .val (.int sv), .val (.ref vr), .val (.int (Int32.ofNat (w))), .val (.int (Int32.ofNat (f))), .val (.int (Int32.ofNat (t))), .val (.ref b1), .val (.ref b18), .val (.int (Int32.ofNat ((t - f) / w))), .val (.int (Int32.ofNat (f + (t - f) / w * w))), .val (.int (1 : Int32))] at_539 rfl rfl ?_
        refine C.iload 543 at_541 rfl rfl ?_
        refine C.aload 545 at_543 rfl rfl rfl ?_
        refine C.iconst 546 (0 : Int32) at_545 rfl rfl ?_
        refine C.baloadB 547 0 (.int (bt a b (perm f (f + (t - f) / w * w) w 0))) at_546 rfl Aa (by decide) rfl rfl ?_
        refine C.aload 549 at_547 rfl rfl rfl ?_
        refine C.iload 551 at_549 rfl rfl ?_
        refine C.iload 553 at_551 rfl rfl ?_
        refine C.iload 555 at_553 rfl rfl ?_
        refine C.iconst 556 (0 : Int32) at_555 rfl rfl ?_
        refine C.callS 559 (as := [.ref b1, .int (Int32.ofNat (f)), .int (Int32.ofNat (f + (t - f) / w * w)), .int (Int32.ofNat (w)), .int (0 : Int32)]) (rest := [.int (bt a b (perm f (f + (t - f) / w * w) w 0)), .int (1 : Int32)]) (rm := ⟨0, 0, 0, 0⟩) 2 at_556 rfl (tw 21) (tw 22) (tw 7) (tw 23) (by decide) (expd l Z a0' hw h b1 f t w 0 hf ht (by decide) hw4 (bt a b) (bt_nar a b) Ao) pd4 rfl rfl (Nat.le_of_eq rfl) (by decide) (by decide) (by decide) (by decide) rfl ?_
        refine same_intro ?_
        show W h 2 32 559 #[.val (.long a), .second, .val (.long b), .second, .val (.int sel), .val (.int pf), .val (.int pt), .val (.int sv), .val (.ref vr), .val (.int (Int32.ofNat (w))), .val (.int (Int32.ofNat (f))), .val (.int (Int32.ofNat (t))), .val (.ref b1), .val (.ref b18), .val (.int (Int32.ofNat ((t - f) / w))), .val (.int (Int32.ofNat (f + (t - f) / w * w))), .val (.int (1 : Int32))] [.int (bt a b (perm f (f + (t - f) / w * w) w 0)), .int (bt a b (perm f (f + (t - f) / w * w) w 0)), .int (1 : Int32)]
        refine C.icmpF 562 at_559 rfl (teq rfl).2 ?_
        refine C.iconst 563 (1 : Int32) at_562 rfl rfl ?_
        refine C.goto 567 at_563 rfl ?_
        refine C.iand 568 at_567 rfl ?_
        show W h 2 32 568 #[.val (.long a), .second, .val (.long b), .second, .val (.int sel), .val (.int pf), .val (.int pt), .val (.int sv), .val (.ref vr), .val (.int (Int32.ofNat (w))), .val (.int (Int32.ofNat (f))), .val (.int (Int32.ofNat (t))), .val (.ref b1), .val (.ref b18), .val (.int (Int32.ofNat ((t - f) / w))), .val (.int (Int32.ofNat (f + (t - f) / w * w))), .val (.int (1 : Int32))] [.int (1 : Int32)]
        refine C.istore 570 #[.val (.long a), .second, .val (.long b), .second, .val (.int sel), .val (.int pf), .val (.int pt), .val (.int sv), .val (.ref vr), .val (.int (Int32.ofNat (w))), .val (.int (Int32.ofNat (f))), .val (.int (Int32.ofNat (t))), .val (.ref b1), .val (.ref b18), .val (.int (Int32.ofNat ((t - f) / w))), .val (.int (Int32.ofNat (f + (t - f) / w * w))), .val (.int (1 : Int32))] at_568 rfl rfl ?_
        refine C.iload 572 at_570 rfl rfl ?_
        refine C.aload 574 at_572 rfl rfl rfl ?_
        refine C.iconst 575 (1 : Int32) at_574 rfl rfl ?_
        refine C.baloadB 576 1 (.int (bt a b (perm f (f + (t - f) / w * w) w 1))) at_575 rfl Aa (by decide) rfl rfl ?_
        refine C.aload 578 at_576 rfl rfl rfl ?_
        refine C.iload 580 at_578 rfl rfl ?_
        refine C.iload 582 at_580 rfl rfl ?_
        refine C.iload 584 at_582 rfl rfl ?_
        refine C.iconst 585 (1 : Int32) at_584 rfl rfl ?_
        refine C.callS 588 (as := [.ref b1, .int (Int32.ofNat (f)), .int (Int32.ofNat (f + (t - f) / w * w)), .int (Int32.ofNat (w)), .int (1 : Int32)]) (rest := [.int (bt a b (perm f (f + (t - f) / w * w) w 1)), .int (1 : Int32)]) (rm := ⟨0, 0, 0, 0⟩) 2 at_585 rfl (tw 21) (tw 22) (tw 7) (tw 23) (by decide) (expd l Z a0' hw h b1 f t w 1 hf ht (by decide) hw4 (bt a b) (bt_nar a b) Ao) pd4 rfl rfl (Nat.le_of_eq rfl) (by decide) (by decide) (by decide) (by decide) rfl ?_
        refine same_intro ?_
        show W h 2 32 588 #[.val (.long a), .second, .val (.long b), .second, .val (.int sel), .val (.int pf), .val (.int pt), .val (.int sv), .val (.ref vr), .val (.int (Int32.ofNat (w))), .val (.int (Int32.ofNat (f))), .val (.int (Int32.ofNat (t))), .val (.ref b1), .val (.ref b18), .val (.int (Int32.ofNat ((t - f) / w))), .val (.int (Int32.ofNat (f + (t - f) / w * w))), .val (.int (1 : Int32))] [.int (bt a b (perm f (f + (t - f) / w * w) w 1)), .int (bt a b (perm f (f + (t - f) / w * w) w 1)), .int (1 : Int32)]
        refine C.icmpF 591 at_588 rfl (teq rfl).2 ?_
        refine C.iconst 592 (1 : Int32) at_591 rfl rfl ?_
        refine C.goto 596 at_592 rfl ?_
        refine C.iand 597 at_596 rfl ?_
        show W h 2 32 597 #[.val (.long a), .second, .val (.long b), .second, .val (.int sel), .val (.int pf), .val (.int pt), .val (.int sv), .val (.ref vr), .val (.int (Int32.ofNat (w))), .val (.int (Int32.ofNat (f))), .val (.int (Int32.ofNat (t))), .val (.ref b1), .val (.ref b18), .val (.int (Int32.ofNat ((t - f) / w))), .val (.int (Int32.ofNat (f + (t - f) / w * w))), .val (.int (1 : Int32))] [.int (1 : Int32)]
        refine C.istore 599 #[.val (.long a), .second, .val (.long b), .second, .val (.int sel), .val (.int pf), .val (.int pt), .val (.int sv), .val (.ref vr), .val (.int (Int32.ofNat (w))), .val (.int (Int32.ofNat (f))), .val (.int (Int32.ofNat (t))), .val (.ref b1), .val (.ref b18), .val (.int (Int32.ofNat ((t - f) / w))), .val (.int (Int32.ofNat (f + (t - f) / w * w))), .val (.int (1 : Int32))] at_597 rfl rfl ?_
        refine C.iload 601 at_599 rfl rfl ?_
        refine C.aload 603 at_601 rfl rfl rfl ?_
        refine C.iconst 604 (2 : Int32) at_603 rfl rfl ?_
        refine C.baloadB 605 2 (.int (bt a b (perm f (f + (t - f) / w * w) w 2))) at_604 rfl Aa (by decide) rfl rfl ?_
        refine C.aload 607 at_605 rfl rfl rfl ?_
        refine C.iload 609 at_607 rfl rfl ?_
        refine C.iload 611 at_609 rfl rfl ?_
        refine C.iload 613 at_611 rfl rfl ?_
        refine C.iconst 614 (2 : Int32) at_613 rfl rfl ?_
        refine C.callS 617 (as := [.ref b1, .int (Int32.ofNat (f)), .int (Int32.ofNat (f + (t - f) / w * w)), .int (Int32.ofNat (w)), .int (2 : Int32)]) (rest := [.int (bt a b (perm f (f + (t - f) / w * w) w 2)), .int (1 : Int32)]) (rm := ⟨0, 0, 0, 0⟩) 2 at_614 rfl (tw 21) (tw 22) (tw 7) (tw 23) (by decide) (expd l Z a0' hw h b1 f t w 2 hf ht (by decide) hw4 (bt a b) (bt_nar a b) Ao) pd4 rfl rfl (Nat.le_of_eq rfl) (by decide) (by decide) (by decide) (by decide) rfl ?_
        refine same_intro ?_
        show W h 2 32 617 #[.val (.long a), .second, .val (.long b), .second, .val (.int sel), .val (.int pf), .val (.int pt), .val (.int sv), .val (.ref vr), .val (.int (Int32.ofNat (w))), .val (.int (Int32.ofNat (f))), .val (.int (Int32.ofNat (t))), .val (.ref b1), .val (.ref b18), .val (.int (Int32.ofNat ((t - f) / w))), .val (.int (Int32.ofNat (f + (t - f) / w * w))), .val (.int (1 : Int32))] [.int (bt a b (perm f (f + (t - f) / w * w) w 2)), .int (bt a b (perm f (f + (t - f) / w * w) w 2)), .int (1 : Int32)]
        refine C.icmpF 620 at_617 rfl (teq rfl).2 ?_
        refine C.iconst 621 (1 : Int32) at_620 rfl rfl ?_
        refine C.goto 625 at_621 rfl ?_
        refine C.iand 626 at_625 rfl ?_
        show W h 2 32 626 #[.val (.long a), .second, .val (.long b), .second, .val (.int sel), .val (.int pf), .val (.int pt), .val (.int sv), .val (.ref vr), .val (.int (Int32.ofNat (w))), .val (.int (Int32.ofNat (f))), .val (.int (Int32.ofNat (t))), .val (.ref b1), .val (.ref b18), .val (.int (Int32.ofNat ((t - f) / w))), .val (.int (Int32.ofNat (f + (t - f) / w * w))), .val (.int (1 : Int32))] [.int (1 : Int32)]
        refine C.istore 628 #[.val (.long a), .second, .val (.long b), .second, .val (.int sel), .val (.int pf), .val (.int pt), .val (.int sv), .val (.ref vr), .val (.int (Int32.ofNat (w))), .val (.int (Int32.ofNat (f))), .val (.int (Int32.ofNat (t))), .val (.ref b1), .val (.ref b18), .val (.int (Int32.ofNat ((t - f) / w))), .val (.int (Int32.ofNat (f + (t - f) / w * w))), .val (.int (1 : Int32))] at_626 rfl rfl ?_
        refine C.iload 630 at_628 rfl rfl ?_
        refine C.aload 632 at_630 rfl rfl rfl ?_
        refine C.iconst 633 (3 : Int32) at_632 rfl rfl ?_
        refine C.baloadB 634 3 (.int (bt a b (perm f (f + (t - f) / w * w) w 3))) at_633 rfl Aa (by decide) rfl rfl ?_
        refine C.aload 636 at_634 rfl rfl rfl ?_
        refine C.iload 638 at_636 rfl rfl ?_
        refine C.iload 640 at_638 rfl rfl ?_
        refine C.iload 642 at_640 rfl rfl ?_
        refine C.iconst 643 (3 : Int32) at_642 rfl rfl ?_
        refine C.callS 646 (as := [.ref b1, .int (Int32.ofNat (f)), .int (Int32.ofNat (f + (t - f) / w * w)), .int (Int32.ofNat (w)), .int (3 : Int32)]) (rest := [.int (bt a b (perm f (f + (t - f) / w * w) w 3)), .int (1 : Int32)]) (rm := ⟨0, 0, 0, 0⟩) 2 at_643 rfl (tw 21) (tw 22) (tw 7) (tw 23) (by decide) (expd l Z a0' hw h b1 f t w 3 hf ht (by decide) hw4 (bt a b) (bt_nar a b) Ao) pd4 rfl rfl (Nat.le_of_eq rfl) (by decide) (by decide) (by decide) (by decide) rfl ?_
        refine same_intro ?_
        show W h 2 32 646 #[.val (.long a), .second, .val (.long b), .second, .val (.int sel), .val (.int pf), .val (.int pt), .val (.int sv), .val (.ref vr), .val (.int (Int32.ofNat (w))), .val (.int (Int32.ofNat (f))), .val (.int (Int32.ofNat (t))), .val (.ref b1), .val (.ref b18), .val (.int (Int32.ofNat ((t - f) / w))), .val (.int (Int32.ofNat (f + (t - f) / w * w))), .val (.int (1 : Int32))] [.int (bt a b (perm f (f + (t - f) / w * w) w 3)), .int (bt a b (perm f (f + (t - f) / w * w) w 3)), .int (1 : Int32)]
        refine C.icmpF 649 at_646 rfl (teq rfl).2 ?_
        refine C.iconst 650 (1 : Int32) at_649 rfl rfl ?_
        refine C.goto 654 at_650 rfl ?_
        refine C.iand 655 at_654 rfl ?_
        show W h 2 32 655 #[.val (.long a), .second, .val (.long b), .second, .val (.int sel), .val (.int pf), .val (.int pt), .val (.int sv), .val (.ref vr), .val (.int (Int32.ofNat (w))), .val (.int (Int32.ofNat (f))), .val (.int (Int32.ofNat (t))), .val (.ref b1), .val (.ref b18), .val (.int (Int32.ofNat ((t - f) / w))), .val (.int (Int32.ofNat (f + (t - f) / w * w))), .val (.int (1 : Int32))] [.int (1 : Int32)]
        refine C.istore 657 #[.val (.long a), .second, .val (.long b), .second, .val (.int sel), .val (.int pf), .val (.int pt), .val (.int sv), .val (.ref vr), .val (.int (Int32.ofNat (w))), .val (.int (Int32.ofNat (f))), .val (.int (Int32.ofNat (t))), .val (.ref b1), .val (.ref b18), .val (.int (Int32.ofNat ((t - f) / w))), .val (.int (Int32.ofNat (f + (t - f) / w * w))), .val (.int (1 : Int32))] at_655 rfl rfl ?_
        refine C.iload 659 at_657 rfl rfl ?_
        refine C.aload 661 at_659 rfl rfl rfl ?_
        refine C.iconst 662 (4 : Int32) at_661 rfl rfl ?_
        refine C.baloadB 663 4 (.int (bt a b (perm f (f + (t - f) / w * w) w 4))) at_662 rfl Aa (by decide) rfl rfl ?_
        refine C.aload 665 at_663 rfl rfl rfl ?_
        refine C.iload 667 at_665 rfl rfl ?_
        refine C.iload 669 at_667 rfl rfl ?_
        refine C.iload 671 at_669 rfl rfl ?_
        refine C.iconst 672 (4 : Int32) at_671 rfl rfl ?_
        refine C.callS 675 (as := [.ref b1, .int (Int32.ofNat (f)), .int (Int32.ofNat (f + (t - f) / w * w)), .int (Int32.ofNat (w)), .int (4 : Int32)]) (rest := [.int (bt a b (perm f (f + (t - f) / w * w) w 4)), .int (1 : Int32)]) (rm := ⟨0, 0, 0, 0⟩) 2 at_672 rfl (tw 21) (tw 22) (tw 7) (tw 23) (by decide) (expd l Z a0' hw h b1 f t w 4 hf ht (by decide) hw4 (bt a b) (bt_nar a b) Ao) pd4 rfl rfl (Nat.le_of_eq rfl) (by decide) (by decide) (by decide) (by decide) rfl ?_
        refine same_intro ?_
        show W h 2 32 675 #[.val (.long a), .second, .val (.long b), .second, .val (.int sel), .val (.int pf), .val (.int pt), .val (.int sv), .val (.ref vr), .val (.int (Int32.ofNat (w))), .val (.int (Int32.ofNat (f))), .val (.int (Int32.ofNat (t))), .val (.ref b1), .val (.ref b18), .val (.int (Int32.ofNat ((t - f) / w))), .val (.int (Int32.ofNat (f + (t - f) / w * w))), .val (.int (1 : Int32))] [.int (bt a b (perm f (f + (t - f) / w * w) w 4)), .int (bt a b (perm f (f + (t - f) / w * w) w 4)), .int (1 : Int32)]
        refine C.icmpF 678 at_675 rfl (teq rfl).2 ?_
        refine C.iconst 679 (1 : Int32) at_678 rfl rfl ?_
        refine C.goto 683 at_679 rfl ?_
        refine C.iand 684 at_683 rfl ?_
        show W h 2 32 684 #[.val (.long a), .second, .val (.long b), .second, .val (.int sel), .val (.int pf), .val (.int pt), .val (.int sv), .val (.ref vr), .val (.int (Int32.ofNat (w))), .val (.int (Int32.ofNat (f))), .val (.int (Int32.ofNat (t))), .val (.ref b1), .val (.ref b18), .val (.int (Int32.ofNat ((t - f) / w))), .val (.int (Int32.ofNat (f + (t - f) / w * w))), .val (.int (1 : Int32))] [.int (1 : Int32)]
        refine C.istore 686 #[.val (.long a), .second, .val (.long b), .second, .val (.int sel), .val (.int pf), .val (.int pt), .val (.int sv), .val (.ref vr), .val (.int (Int32.ofNat (w))), .val (.int (Int32.ofNat (f))), .val (.int (Int32.ofNat (t))), .val (.ref b1), .val (.ref b18), .val (.int (Int32.ofNat ((t - f) / w))), .val (.int (Int32.ofNat (f + (t - f) / w * w))), .val (.int (1 : Int32))] at_684 rfl rfl ?_
        refine C.iload 688 at_686 rfl rfl ?_
        refine C.aload 690 at_688 rfl rfl rfl ?_
        refine C.iconst 691 (5 : Int32) at_690 rfl rfl ?_
        refine C.baloadB 692 5 (.int (bt a b (perm f (f + (t - f) / w * w) w 5))) at_691 rfl Aa (by decide) rfl rfl ?_
        refine C.aload 694 at_692 rfl rfl rfl ?_
        refine C.iload 696 at_694 rfl rfl ?_
        refine C.iload 698 at_696 rfl rfl ?_
        refine C.iload 700 at_698 rfl rfl ?_
        refine C.iconst 701 (5 : Int32) at_700 rfl rfl ?_
        refine C.callS 704 (as := [.ref b1, .int (Int32.ofNat (f)), .int (Int32.ofNat (f + (t - f) / w * w)), .int (Int32.ofNat (w)), .int (5 : Int32)]) (rest := [.int (bt a b (perm f (f + (t - f) / w * w) w 5)), .int (1 : Int32)]) (rm := ⟨0, 0, 0, 0⟩) 2 at_701 rfl (tw 21) (tw 22) (tw 7) (tw 23) (by decide) (expd l Z a0' hw h b1 f t w 5 hf ht (by decide) hw4 (bt a b) (bt_nar a b) Ao) pd4 rfl rfl (Nat.le_of_eq rfl) (by decide) (by decide) (by decide) (by decide) rfl ?_
        refine same_intro ?_
        show W h 2 32 704 #[.val (.long a), .second, .val (.long b), .second, .val (.int sel), .val (.int pf), .val (.int pt), .val (.int sv), .val (.ref vr), .val (.int (Int32.ofNat (w))), .val (.int (Int32.ofNat (f))), .val (.int (Int32.ofNat (t))), .val (.ref b1), .val (.ref b18), .val (.int (Int32.ofNat ((t - f) / w))), .val (.int (Int32.ofNat (f + (t - f) / w * w))), .val (.int (1 : Int32))] [.int (bt a b (perm f (f + (t - f) / w * w) w 5)), .int (bt a b (perm f (f + (t - f) / w * w) w 5)), .int (1 : Int32)]
        refine C.icmpF 707 at_704 rfl (teq rfl).2 ?_
        refine C.iconst 708 (1 : Int32) at_707 rfl rfl ?_
        refine C.goto 712 at_708 rfl ?_
        refine C.iand 713 at_712 rfl ?_
        show W h 2 32 713 #[.val (.long a), .second, .val (.long b), .second, .val (.int sel), .val (.int pf), .val (.int pt), .val (.int sv), .val (.ref vr), .val (.int (Int32.ofNat (w))), .val (.int (Int32.ofNat (f))), .val (.int (Int32.ofNat (t))), .val (.ref b1), .val (.ref b18), .val (.int (Int32.ofNat ((t - f) / w))), .val (.int (Int32.ofNat (f + (t - f) / w * w))), .val (.int (1 : Int32))] [.int (1 : Int32)]
        refine C.istore 715 #[.val (.long a), .second, .val (.long b), .second, .val (.int sel), .val (.int pf), .val (.int pt), .val (.int sv), .val (.ref vr), .val (.int (Int32.ofNat (w))), .val (.int (Int32.ofNat (f))), .val (.int (Int32.ofNat (t))), .val (.ref b1), .val (.ref b18), .val (.int (Int32.ofNat ((t - f) / w))), .val (.int (Int32.ofNat (f + (t - f) / w * w))), .val (.int (1 : Int32))] at_713 rfl rfl ?_
        refine C.iload 717 at_715 rfl rfl ?_
        refine C.aload 719 at_717 rfl rfl rfl ?_
        refine C.bipush 721 (6 : Int32) at_719 rfl rfl ?_
        refine C.baloadB 722 6 (.int (bt a b (perm f (f + (t - f) / w * w) w 6))) at_721 rfl Aa (by decide) rfl rfl ?_
        refine C.aload 724 at_722 rfl rfl rfl ?_
        refine C.iload 726 at_724 rfl rfl ?_
        refine C.iload 728 at_726 rfl rfl ?_
        refine C.iload 730 at_728 rfl rfl ?_
        refine C.bipush 732 (6 : Int32) at_730 rfl rfl ?_
        refine C.callS 735 (as := [.ref b1, .int (Int32.ofNat (f)), .int (Int32.ofNat (f + (t - f) / w * w)), .int (Int32.ofNat (w)), .int (6 : Int32)]) (rest := [.int (bt a b (perm f (f + (t - f) / w * w) w 6)), .int (1 : Int32)]) (rm := ⟨0, 0, 0, 0⟩) 2 at_732 rfl (tw 21) (tw 22) (tw 7) (tw 23) (by decide) (expd l Z a0' hw h b1 f t w 6 hf ht (by decide) hw4 (bt a b) (bt_nar a b) Ao) pd4 rfl rfl (Nat.le_of_eq rfl) (by decide) (by decide) (by decide) (by decide) rfl ?_
        refine same_intro ?_
        show W h 2 32 735 #[.val (.long a), .second, .val (.long b), .second, .val (.int sel), .val (.int pf), .val (.int pt), .val (.int sv), .val (.ref vr), .val (.int (Int32.ofNat (w))), .val (.int (Int32.ofNat (f))), .val (.int (Int32.ofNat (t))), .val (.ref b1), .val (.ref b18), .val (.int (Int32.ofNat ((t - f) / w))), .val (.int (Int32.ofNat (f + (t - f) / w * w))), .val (.int (1 : Int32))] [.int (bt a b (perm f (f + (t - f) / w * w) w 6)), .int (bt a b (perm f (f + (t - f) / w * w) w 6)), .int (1 : Int32)]
        refine C.icmpF 738 at_735 rfl (teq rfl).2 ?_
        refine C.iconst 739 (1 : Int32) at_738 rfl rfl ?_
        refine C.goto 743 at_739 rfl ?_
        refine C.iand 744 at_743 rfl ?_
        show W h 2 32 744 #[.val (.long a), .second, .val (.long b), .second, .val (.int sel), .val (.int pf), .val (.int pt), .val (.int sv), .val (.ref vr), .val (.int (Int32.ofNat (w))), .val (.int (Int32.ofNat (f))), .val (.int (Int32.ofNat (t))), .val (.ref b1), .val (.ref b18), .val (.int (Int32.ofNat ((t - f) / w))), .val (.int (Int32.ofNat (f + (t - f) / w * w))), .val (.int (1 : Int32))] [.int (1 : Int32)]
        refine C.istore 746 #[.val (.long a), .second, .val (.long b), .second, .val (.int sel), .val (.int pf), .val (.int pt), .val (.int sv), .val (.ref vr), .val (.int (Int32.ofNat (w))), .val (.int (Int32.ofNat (f))), .val (.int (Int32.ofNat (t))), .val (.ref b1), .val (.ref b18), .val (.int (Int32.ofNat ((t - f) / w))), .val (.int (Int32.ofNat (f + (t - f) / w * w))), .val (.int (1 : Int32))] at_744 rfl rfl ?_
        refine C.iload 748 at_746 rfl rfl ?_
        refine C.aload 750 at_748 rfl rfl rfl ?_
        refine C.bipush 752 (7 : Int32) at_750 rfl rfl ?_
        refine C.baloadB 753 7 (.int (bt a b (perm f (f + (t - f) / w * w) w 7))) at_752 rfl Aa (by decide) rfl rfl ?_
        refine C.aload 755 at_753 rfl rfl rfl ?_
        refine C.iload 757 at_755 rfl rfl ?_
        refine C.iload 759 at_757 rfl rfl ?_
        refine C.iload 761 at_759 rfl rfl ?_
        refine C.bipush 763 (7 : Int32) at_761 rfl rfl ?_
        refine C.callS 766 (as := [.ref b1, .int (Int32.ofNat (f)), .int (Int32.ofNat (f + (t - f) / w * w)), .int (Int32.ofNat (w)), .int (7 : Int32)]) (rest := [.int (bt a b (perm f (f + (t - f) / w * w) w 7)), .int (1 : Int32)]) (rm := ⟨0, 0, 0, 0⟩) 2 at_763 rfl (tw 21) (tw 22) (tw 7) (tw 23) (by decide) (expd l Z a0' hw h b1 f t w 7 hf ht (by decide) hw4 (bt a b) (bt_nar a b) Ao) pd4 rfl rfl (Nat.le_of_eq rfl) (by decide) (by decide) (by decide) (by decide) rfl ?_
        refine same_intro ?_
        show W h 2 32 766 #[.val (.long a), .second, .val (.long b), .second, .val (.int sel), .val (.int pf), .val (.int pt), .val (.int sv), .val (.ref vr), .val (.int (Int32.ofNat (w))), .val (.int (Int32.ofNat (f))), .val (.int (Int32.ofNat (t))), .val (.ref b1), .val (.ref b18), .val (.int (Int32.ofNat ((t - f) / w))), .val (.int (Int32.ofNat (f + (t - f) / w * w))), .val (.int (1 : Int32))] [.int (bt a b (perm f (f + (t - f) / w * w) w 7)), .int (bt a b (perm f (f + (t - f) / w * w) w 7)), .int (1 : Int32)]
        refine C.icmpF 769 at_766 rfl (teq rfl).2 ?_
        refine C.iconst 770 (1 : Int32) at_769 rfl rfl ?_
        refine C.goto 774 at_770 rfl ?_
        refine C.iand 775 at_774 rfl ?_
        show W h 2 32 775 #[.val (.long a), .second, .val (.long b), .second, .val (.int sel), .val (.int pf), .val (.int pt), .val (.int sv), .val (.ref vr), .val (.int (Int32.ofNat (w))), .val (.int (Int32.ofNat (f))), .val (.int (Int32.ofNat (t))), .val (.ref b1), .val (.ref b18), .val (.int (Int32.ofNat ((t - f) / w))), .val (.int (Int32.ofNat (f + (t - f) / w * w))), .val (.int (1 : Int32))] [.int (1 : Int32)]
        refine C.istore 777 #[.val (.long a), .second, .val (.long b), .second, .val (.int sel), .val (.int pf), .val (.int pt), .val (.int sv), .val (.ref vr), .val (.int (Int32.ofNat (w))), .val (.int (Int32.ofNat (f))), .val (.int (Int32.ofNat (t))), .val (.ref b1), .val (.ref b18), .val (.int (Int32.ofNat ((t - f) / w))), .val (.int (Int32.ofNat (f + (t - f) / w * w))), .val (.int (1 : Int32))] at_775 rfl rfl ?_
        refine C.iload 779 at_777 rfl rfl ?_
        refine C.aload 781 at_779 rfl rfl rfl ?_
        refine C.bipush 783 (8 : Int32) at_781 rfl rfl ?_
        refine C.baloadB 784 8 (.int (bt a b (perm f (f + (t - f) / w * w) w 8))) at_783 rfl Aa (by decide) rfl rfl ?_
        refine C.aload 786 at_784 rfl rfl rfl ?_
        refine C.iload 788 at_786 rfl rfl ?_
        refine C.iload 790 at_788 rfl rfl ?_
        refine C.iload 792 at_790 rfl rfl ?_
        refine C.bipush 794 (8 : Int32) at_792 rfl rfl ?_
        refine C.callS 797 (as := [.ref b1, .int (Int32.ofNat (f)), .int (Int32.ofNat (f + (t - f) / w * w)), .int (Int32.ofNat (w)), .int (8 : Int32)]) (rest := [.int (bt a b (perm f (f + (t - f) / w * w) w 8)), .int (1 : Int32)]) (rm := ⟨0, 0, 0, 0⟩) 2 at_794 rfl (tw 21) (tw 22) (tw 7) (tw 23) (by decide) (expd l Z a0' hw h b1 f t w 8 hf ht (by decide) hw4 (bt a b) (bt_nar a b) Ao) pd4 rfl rfl (Nat.le_of_eq rfl) (by decide) (by decide) (by decide) (by decide) rfl ?_
        refine same_intro ?_
        show W h 2 32 797 #[.val (.long a), .second, .val (.long b), .second, .val (.int sel), .val (.int pf), .val (.int pt), .val (.int sv), .val (.ref vr), .val (.int (Int32.ofNat (w))), .val (.int (Int32.ofNat (f))), .val (.int (Int32.ofNat (t))), .val (.ref b1), .val (.ref b18), .val (.int (Int32.ofNat ((t - f) / w))), .val (.int (Int32.ofNat (f + (t - f) / w * w))), .val (.int (1 : Int32))] [.int (bt a b (perm f (f + (t - f) / w * w) w 8)), .int (bt a b (perm f (f + (t - f) / w * w) w 8)), .int (1 : Int32)]
        refine C.icmpF 800 at_797 rfl (teq rfl).2 ?_
        refine C.iconst 801 (1 : Int32) at_800 rfl rfl ?_
        refine C.goto 805 at_801 rfl ?_
        refine C.iand 806 at_805 rfl ?_
        show W h 2 32 806 #[.val (.long a), .second, .val (.long b), .second, .val (.int sel), .val (.int pf), .val (.int pt), .val (.int sv), .val (.ref vr), .val (.int (Int32.ofNat (w))), .val (.int (Int32.ofNat (f))), .val (.int (Int32.ofNat (t))), .val (.ref b1), .val (.ref b18), .val (.int (Int32.ofNat ((t - f) / w))), .val (.int (Int32.ofNat (f + (t - f) / w * w))), .val (.int (1 : Int32))] [.int (1 : Int32)]
        refine C.istore 808 #[.val (.long a), .second, .val (.long b), .second, .val (.int sel), .val (.int pf), .val (.int pt), .val (.int sv), .val (.ref vr), .val (.int (Int32.ofNat (w))), .val (.int (Int32.ofNat (f))), .val (.int (Int32.ofNat (t))), .val (.ref b1), .val (.ref b18), .val (.int (Int32.ofNat ((t - f) / w))), .val (.int (Int32.ofNat (f + (t - f) / w * w))), .val (.int (1 : Int32))] at_806 rfl rfl ?_
        refine C.iload 810 at_808 rfl rfl ?_
        refine C.aload 812 at_810 rfl rfl rfl ?_
        refine C.bipush 814 (9 : Int32) at_812 rfl rfl ?_
        refine C.baloadB 815 9 (.int (bt a b (perm f (f + (t - f) / w * w) w 9))) at_814 rfl Aa (by decide) rfl rfl ?_
        refine C.aload 817 at_815 rfl rfl rfl ?_
        refine C.iload 819 at_817 rfl rfl ?_
        refine C.iload 821 at_819 rfl rfl ?_
        refine C.iload 823 at_821 rfl rfl ?_
        refine C.bipush 825 (9 : Int32) at_823 rfl rfl ?_
        refine C.callS 828 (as := [.ref b1, .int (Int32.ofNat (f)), .int (Int32.ofNat (f + (t - f) / w * w)), .int (Int32.ofNat (w)), .int (9 : Int32)]) (rest := [.int (bt a b (perm f (f + (t - f) / w * w) w 9)), .int (1 : Int32)]) (rm := ⟨0, 0, 0, 0⟩) 2 at_825 rfl (tw 21) (tw 22) (tw 7) (tw 23) (by decide) (expd l Z a0' hw h b1 f t w 9 hf ht (by decide) hw4 (bt a b) (bt_nar a b) Ao) pd4 rfl rfl (Nat.le_of_eq rfl) (by decide) (by decide) (by decide) (by decide) rfl ?_
        refine same_intro ?_
        show W h 2 32 828 #[.val (.long a), .second, .val (.long b), .second, .val (.int sel), .val (.int pf), .val (.int pt), .val (.int sv), .val (.ref vr), .val (.int (Int32.ofNat (w))), .val (.int (Int32.ofNat (f))), .val (.int (Int32.ofNat (t))), .val (.ref b1), .val (.ref b18), .val (.int (Int32.ofNat ((t - f) / w))), .val (.int (Int32.ofNat (f + (t - f) / w * w))), .val (.int (1 : Int32))] [.int (bt a b (perm f (f + (t - f) / w * w) w 9)), .int (bt a b (perm f (f + (t - f) / w * w) w 9)), .int (1 : Int32)]
        refine C.icmpF 831 at_828 rfl (teq rfl).2 ?_
        refine C.iconst 832 (1 : Int32) at_831 rfl rfl ?_
        refine C.goto 836 at_832 rfl ?_
        refine C.iand 837 at_836 rfl ?_
        show W h 2 32 837 #[.val (.long a), .second, .val (.long b), .second, .val (.int sel), .val (.int pf), .val (.int pt), .val (.int sv), .val (.ref vr), .val (.int (Int32.ofNat (w))), .val (.int (Int32.ofNat (f))), .val (.int (Int32.ofNat (t))), .val (.ref b1), .val (.ref b18), .val (.int (Int32.ofNat ((t - f) / w))), .val (.int (Int32.ofNat (f + (t - f) / w * w))), .val (.int (1 : Int32))] [.int (1 : Int32)]
        refine C.istore 839 #[.val (.long a), .second, .val (.long b), .second, .val (.int sel), .val (.int pf), .val (.int pt), .val (.int sv), .val (.ref vr), .val (.int (Int32.ofNat (w))), .val (.int (Int32.ofNat (f))), .val (.int (Int32.ofNat (t))), .val (.ref b1), .val (.ref b18), .val (.int (Int32.ofNat ((t - f) / w))), .val (.int (Int32.ofNat (f + (t - f) / w * w))), .val (.int (1 : Int32))] at_837 rfl rfl ?_
        refine C.iload 841 at_839 rfl rfl ?_
        refine C.aload 843 at_841 rfl rfl rfl ?_
        refine C.bipush 845 (10 : Int32) at_843 rfl rfl ?_
        refine C.baloadB 846 10 (.int (bt a b (perm f (f + (t - f) / w * w) w 10))) at_845 rfl Aa (by decide) rfl rfl ?_
        refine C.aload 848 at_846 rfl rfl rfl ?_
        refine C.iload 850 at_848 rfl rfl ?_
        refine C.iload 852 at_850 rfl rfl ?_
        refine C.iload 854 at_852 rfl rfl ?_
        refine C.bipush 856 (10 : Int32) at_854 rfl rfl ?_
        refine C.callS 859 (as := [.ref b1, .int (Int32.ofNat (f)), .int (Int32.ofNat (f + (t - f) / w * w)), .int (Int32.ofNat (w)), .int (10 : Int32)]) (rest := [.int (bt a b (perm f (f + (t - f) / w * w) w 10)), .int (1 : Int32)]) (rm := ⟨0, 0, 0, 0⟩) 2 at_856 rfl (tw 21) (tw 22) (tw 7) (tw 23) (by decide) (expd l Z a0' hw h b1 f t w 10 hf ht (by decide) hw4 (bt a b) (bt_nar a b) Ao) pd4 rfl rfl (Nat.le_of_eq rfl) (by decide) (by decide) (by decide) (by decide) rfl ?_
        refine same_intro ?_
        show W h 2 32 859 #[.val (.long a), .second, .val (.long b), .second, .val (.int sel), .val (.int pf), .val (.int pt), .val (.int sv), .val (.ref vr), .val (.int (Int32.ofNat (w))), .val (.int (Int32.ofNat (f))), .val (.int (Int32.ofNat (t))), .val (.ref b1), .val (.ref b18), .val (.int (Int32.ofNat ((t - f) / w))), .val (.int (Int32.ofNat (f + (t - f) / w * w))), .val (.int (1 : Int32))] [.int (bt a b (perm f (f + (t - f) / w * w) w 10)), .int (bt a b (perm f (f + (t - f) / w * w) w 10)), .int (1 : Int32)]
        refine C.icmpF 862 at_859 rfl (teq rfl).2 ?_
        refine C.iconst 863 (1 : Int32) at_862 rfl rfl ?_
        refine C.goto 867 at_863 rfl ?_
        refine C.iand 868 at_867 rfl ?_
        show W h 2 32 868 #[.val (.long a), .second, .val (.long b), .second, .val (.int sel), .val (.int pf), .val (.int pt), .val (.int sv), .val (.ref vr), .val (.int (Int32.ofNat (w))), .val (.int (Int32.ofNat (f))), .val (.int (Int32.ofNat (t))), .val (.ref b1), .val (.ref b18), .val (.int (Int32.ofNat ((t - f) / w))), .val (.int (Int32.ofNat (f + (t - f) / w * w))), .val (.int (1 : Int32))] [.int (1 : Int32)]
        refine C.istore 870 #[.val (.long a), .second, .val (.long b), .second, .val (.int sel), .val (.int pf), .val (.int pt), .val (.int sv), .val (.ref vr), .val (.int (Int32.ofNat (w))), .val (.int (Int32.ofNat (f))), .val (.int (Int32.ofNat (t))), .val (.ref b1), .val (.ref b18), .val (.int (Int32.ofNat ((t - f) / w))), .val (.int (Int32.ofNat (f + (t - f) / w * w))), .val (.int (1 : Int32))] at_868 rfl rfl ?_
        refine C.iload 872 at_870 rfl rfl ?_
        refine C.aload 874 at_872 rfl rfl rfl ?_
        refine C.bipush 876 (11 : Int32) at_874 rfl rfl ?_
        refine C.baloadB 877 11 (.int (bt a b (perm f (f + (t - f) / w * w) w 11))) at_876 rfl Aa (by decide) rfl rfl ?_
        refine C.aload 879 at_877 rfl rfl rfl ?_
        refine C.iload 881 at_879 rfl rfl ?_
        refine C.iload 883 at_881 rfl rfl ?_
        refine C.iload 885 at_883 rfl rfl ?_
        refine C.bipush 887 (11 : Int32) at_885 rfl rfl ?_
        refine C.callS 890 (as := [.ref b1, .int (Int32.ofNat (f)), .int (Int32.ofNat (f + (t - f) / w * w)), .int (Int32.ofNat (w)), .int (11 : Int32)]) (rest := [.int (bt a b (perm f (f + (t - f) / w * w) w 11)), .int (1 : Int32)]) (rm := ⟨0, 0, 0, 0⟩) 2 at_887 rfl (tw 21) (tw 22) (tw 7) (tw 23) (by decide) (expd l Z a0' hw h b1 f t w 11 hf ht (by decide) hw4 (bt a b) (bt_nar a b) Ao) pd4 rfl rfl (Nat.le_of_eq rfl) (by decide) (by decide) (by decide) (by decide) rfl ?_
        refine same_intro ?_
        show W h 2 32 890 #[.val (.long a), .second, .val (.long b), .second, .val (.int sel), .val (.int pf), .val (.int pt), .val (.int sv), .val (.ref vr), .val (.int (Int32.ofNat (w))), .val (.int (Int32.ofNat (f))), .val (.int (Int32.ofNat (t))), .val (.ref b1), .val (.ref b18), .val (.int (Int32.ofNat ((t - f) / w))), .val (.int (Int32.ofNat (f + (t - f) / w * w))), .val (.int (1 : Int32))] [.int (bt a b (perm f (f + (t - f) / w * w) w 11)), .int (bt a b (perm f (f + (t - f) / w * w) w 11)), .int (1 : Int32)]
        refine C.icmpF 893 at_890 rfl (teq rfl).2 ?_
        refine C.iconst 894 (1 : Int32) at_893 rfl rfl ?_
        refine C.goto 898 at_894 rfl ?_
        refine C.iand 899 at_898 rfl ?_
        show W h 2 32 899 #[.val (.long a), .second, .val (.long b), .second, .val (.int sel), .val (.int pf), .val (.int pt), .val (.int sv), .val (.ref vr), .val (.int (Int32.ofNat (w))), .val (.int (Int32.ofNat (f))), .val (.int (Int32.ofNat (t))), .val (.ref b1), .val (.ref b18), .val (.int (Int32.ofNat ((t - f) / w))), .val (.int (Int32.ofNat (f + (t - f) / w * w))), .val (.int (1 : Int32))] [.int (1 : Int32)]
        refine C.istore 901 #[.val (.long a), .second, .val (.long b), .second, .val (.int sel), .val (.int pf), .val (.int pt), .val (.int sv), .val (.ref vr), .val (.int (Int32.ofNat (w))), .val (.int (Int32.ofNat (f))), .val (.int (Int32.ofNat (t))), .val (.ref b1), .val (.ref b18), .val (.int (Int32.ofNat ((t - f) / w))), .val (.int (Int32.ofNat (f + (t - f) / w * w))), .val (.int (1 : Int32))] at_899 rfl rfl ?_
        refine C.iload 903 at_901 rfl rfl ?_
        refine C.aload 905 at_903 rfl rfl rfl ?_
        refine C.bipush 907 (12 : Int32) at_905 rfl rfl ?_
        refine C.baloadB 908 12 (.int (bt a b (perm f (f + (t - f) / w * w) w 12))) at_907 rfl Aa (by decide) rfl rfl ?_
        refine C.aload 910 at_908 rfl rfl rfl ?_
        refine C.iload 912 at_910 rfl rfl ?_
        refine C.iload 914 at_912 rfl rfl ?_
        refine C.iload 916 at_914 rfl rfl ?_
        refine C.bipush 918 (12 : Int32) at_916 rfl rfl ?_
        refine C.callS 921 (as := [.ref b1, .int (Int32.ofNat (f)), .int (Int32.ofNat (f + (t - f) / w * w)), .int (Int32.ofNat (w)), .int (12 : Int32)]) (rest := [.int (bt a b (perm f (f + (t - f) / w * w) w 12)), .int (1 : Int32)]) (rm := ⟨0, 0, 0, 0⟩) 2 at_918 rfl (tw 21) (tw 22) (tw 7) (tw 23) (by decide) (expd l Z a0' hw h b1 f t w 12 hf ht (by decide) hw4 (bt a b) (bt_nar a b) Ao) pd4 rfl rfl (Nat.le_of_eq rfl) (by decide) (by decide) (by decide) (by decide) rfl ?_
        refine same_intro ?_
        show W h 2 32 921 #[.val (.long a), .second, .val (.long b), .second, .val (.int sel), .val (.int pf), .val (.int pt), .val (.int sv), .val (.ref vr), .val (.int (Int32.ofNat (w))), .val (.int (Int32.ofNat (f))), .val (.int (Int32.ofNat (t))), .val (.ref b1), .val (.ref b18), .val (.int (Int32.ofNat ((t - f) / w))), .val (.int (Int32.ofNat (f + (t - f) / w * w))), .val (.int (1 : Int32))] [.int (bt a b (perm f (f + (t - f) / w * w) w 12)), .int (bt a b (perm f (f + (t - f) / w * w) w 12)), .int (1 : Int32)]
        refine C.icmpF 924 at_921 rfl (teq rfl).2 ?_
        refine C.iconst 925 (1 : Int32) at_924 rfl rfl ?_
        refine C.goto 929 at_925 rfl ?_
        refine C.iand 930 at_929 rfl ?_
        show W h 2 32 930 #[.val (.long a), .second, .val (.long b), .second, .val (.int sel), .val (.int pf), .val (.int pt), .val (.int sv), .val (.ref vr), .val (.int (Int32.ofNat (w))), .val (.int (Int32.ofNat (f))), .val (.int (Int32.ofNat (t))), .val (.ref b1), .val (.ref b18), .val (.int (Int32.ofNat ((t - f) / w))), .val (.int (Int32.ofNat (f + (t - f) / w * w))), .val (.int (1 : Int32))] [.int (1 : Int32)]
        refine C.istore 932 #[.val (.long a), .second, .val (.long b), .second, .val (.int sel), .val (.int pf), .val (.int pt), .val (.int sv), .val (.ref vr), .val (.int (Int32.ofNat (w))), .val (.int (Int32.ofNat (f))), .val (.int (Int32.ofNat (t))), .val (.ref b1), .val (.ref b18), .val (.int (Int32.ofNat ((t - f) / w))), .val (.int (Int32.ofNat (f + (t - f) / w * w))), .val (.int (1 : Int32))] at_930 rfl rfl ?_
        refine C.iload 934 at_932 rfl rfl ?_
        refine C.aload 936 at_934 rfl rfl rfl ?_
        refine C.bipush 938 (13 : Int32) at_936 rfl rfl ?_
        refine C.baloadB 939 13 (.int (bt a b (perm f (f + (t - f) / w * w) w 13))) at_938 rfl Aa (by decide) rfl rfl ?_
        refine C.aload 941 at_939 rfl rfl rfl ?_
        refine C.iload 943 at_941 rfl rfl ?_
        refine C.iload 945 at_943 rfl rfl ?_
        refine C.iload 947 at_945 rfl rfl ?_
        refine C.bipush 949 (13 : Int32) at_947 rfl rfl ?_
        refine C.callS 952 (as := [.ref b1, .int (Int32.ofNat (f)), .int (Int32.ofNat (f + (t - f) / w * w)), .int (Int32.ofNat (w)), .int (13 : Int32)]) (rest := [.int (bt a b (perm f (f + (t - f) / w * w) w 13)), .int (1 : Int32)]) (rm := ⟨0, 0, 0, 0⟩) 2 at_949 rfl (tw 21) (tw 22) (tw 7) (tw 23) (by decide) (expd l Z a0' hw h b1 f t w 13 hf ht (by decide) hw4 (bt a b) (bt_nar a b) Ao) pd4 rfl rfl (Nat.le_of_eq rfl) (by decide) (by decide) (by decide) (by decide) rfl ?_
        refine same_intro ?_
        show W h 2 32 952 #[.val (.long a), .second, .val (.long b), .second, .val (.int sel), .val (.int pf), .val (.int pt), .val (.int sv), .val (.ref vr), .val (.int (Int32.ofNat (w))), .val (.int (Int32.ofNat (f))), .val (.int (Int32.ofNat (t))), .val (.ref b1), .val (.ref b18), .val (.int (Int32.ofNat ((t - f) / w))), .val (.int (Int32.ofNat (f + (t - f) / w * w))), .val (.int (1 : Int32))] [.int (bt a b (perm f (f + (t - f) / w * w) w 13)), .int (bt a b (perm f (f + (t - f) / w * w) w 13)), .int (1 : Int32)]
        refine C.icmpF 955 at_952 rfl (teq rfl).2 ?_
        refine C.iconst 956 (1 : Int32) at_955 rfl rfl ?_
        refine C.goto 960 at_956 rfl ?_
        refine C.iand 961 at_960 rfl ?_
        show W h 2 32 961 #[.val (.long a), .second, .val (.long b), .second, .val (.int sel), .val (.int pf), .val (.int pt), .val (.int sv), .val (.ref vr), .val (.int (Int32.ofNat (w))), .val (.int (Int32.ofNat (f))), .val (.int (Int32.ofNat (t))), .val (.ref b1), .val (.ref b18), .val (.int (Int32.ofNat ((t - f) / w))), .val (.int (Int32.ofNat (f + (t - f) / w * w))), .val (.int (1 : Int32))] [.int (1 : Int32)]
        refine C.istore 963 #[.val (.long a), .second, .val (.long b), .second, .val (.int sel), .val (.int pf), .val (.int pt), .val (.int sv), .val (.ref vr), .val (.int (Int32.ofNat (w))), .val (.int (Int32.ofNat (f))), .val (.int (Int32.ofNat (t))), .val (.ref b1), .val (.ref b18), .val (.int (Int32.ofNat ((t - f) / w))), .val (.int (Int32.ofNat (f + (t - f) / w * w))), .val (.int (1 : Int32))] at_961 rfl rfl ?_
        refine C.iload 965 at_963 rfl rfl ?_
        refine C.aload 967 at_965 rfl rfl rfl ?_
        refine C.bipush 969 (14 : Int32) at_967 rfl rfl ?_
        refine C.baloadB 970 14 (.int (bt a b (perm f (f + (t - f) / w * w) w 14))) at_969 rfl Aa (by decide) rfl rfl ?_
        refine C.aload 972 at_970 rfl rfl rfl ?_
        refine C.iload 974 at_972 rfl rfl ?_
        refine C.iload 976 at_974 rfl rfl ?_
        refine C.iload 978 at_976 rfl rfl ?_
        refine C.bipush 980 (14 : Int32) at_978 rfl rfl ?_
        refine C.callS 983 (as := [.ref b1, .int (Int32.ofNat (f)), .int (Int32.ofNat (f + (t - f) / w * w)), .int (Int32.ofNat (w)), .int (14 : Int32)]) (rest := [.int (bt a b (perm f (f + (t - f) / w * w) w 14)), .int (1 : Int32)]) (rm := ⟨0, 0, 0, 0⟩) 2 at_980 rfl (tw 21) (tw 22) (tw 7) (tw 23) (by decide) (expd l Z a0' hw h b1 f t w 14 hf ht (by decide) hw4 (bt a b) (bt_nar a b) Ao) pd4 rfl rfl (Nat.le_of_eq rfl) (by decide) (by decide) (by decide) (by decide) rfl ?_
        refine same_intro ?_
        show W h 2 32 983 #[.val (.long a), .second, .val (.long b), .second, .val (.int sel), .val (.int pf), .val (.int pt), .val (.int sv), .val (.ref vr), .val (.int (Int32.ofNat (w))), .val (.int (Int32.ofNat (f))), .val (.int (Int32.ofNat (t))), .val (.ref b1), .val (.ref b18), .val (.int (Int32.ofNat ((t - f) / w))), .val (.int (Int32.ofNat (f + (t - f) / w * w))), .val (.int (1 : Int32))] [.int (bt a b (perm f (f + (t - f) / w * w) w 14)), .int (bt a b (perm f (f + (t - f) / w * w) w 14)), .int (1 : Int32)]
        refine C.icmpF 986 at_983 rfl (teq rfl).2 ?_
        refine C.iconst 987 (1 : Int32) at_986 rfl rfl ?_
        refine C.goto 991 at_987 rfl ?_
        refine C.iand 992 at_991 rfl ?_
        show W h 2 32 992 #[.val (.long a), .second, .val (.long b), .second, .val (.int sel), .val (.int pf), .val (.int pt), .val (.int sv), .val (.ref vr), .val (.int (Int32.ofNat (w))), .val (.int (Int32.ofNat (f))), .val (.int (Int32.ofNat (t))), .val (.ref b1), .val (.ref b18), .val (.int (Int32.ofNat ((t - f) / w))), .val (.int (Int32.ofNat (f + (t - f) / w * w))), .val (.int (1 : Int32))] [.int (1 : Int32)]
        refine C.istore 994 #[.val (.long a), .second, .val (.long b), .second, .val (.int sel), .val (.int pf), .val (.int pt), .val (.int sv), .val (.ref vr), .val (.int (Int32.ofNat (w))), .val (.int (Int32.ofNat (f))), .val (.int (Int32.ofNat (t))), .val (.ref b1), .val (.ref b18), .val (.int (Int32.ofNat ((t - f) / w))), .val (.int (Int32.ofNat (f + (t - f) / w * w))), .val (.int (1 : Int32))] at_992 rfl rfl ?_
        refine C.iload 996 at_994 rfl rfl ?_
        refine C.aload 998 at_996 rfl rfl rfl ?_
        refine C.bipush 1000 (15 : Int32) at_998 rfl rfl ?_
        refine C.baloadB 1001 15 (.int (bt a b (perm f (f + (t - f) / w * w) w 15))) at_1000 rfl Aa (by decide) rfl rfl ?_
        refine C.aload 1003 at_1001 rfl rfl rfl ?_
        refine C.iload 1005 at_1003 rfl rfl ?_
        refine C.iload 1007 at_1005 rfl rfl ?_
        refine C.iload 1009 at_1007 rfl rfl ?_
        refine C.bipush 1011 (15 : Int32) at_1009 rfl rfl ?_
        refine C.callS 1014 (as := [.ref b1, .int (Int32.ofNat (f)), .int (Int32.ofNat (f + (t - f) / w * w)), .int (Int32.ofNat (w)), .int (15 : Int32)]) (rest := [.int (bt a b (perm f (f + (t - f) / w * w) w 15)), .int (1 : Int32)]) (rm := ⟨0, 0, 0, 0⟩) 2 at_1011 rfl (tw 21) (tw 22) (tw 7) (tw 23) (by decide) (expd l Z a0' hw h b1 f t w 15 hf ht (by decide) hw4 (bt a b) (bt_nar a b) Ao) pd4 rfl rfl (Nat.le_of_eq rfl) (by decide) (by decide) (by decide) (by decide) rfl ?_
        refine same_intro ?_
        show W h 2 32 1014 #[.val (.long a), .second, .val (.long b), .second, .val (.int sel), .val (.int pf), .val (.int pt), .val (.int sv), .val (.ref vr), .val (.int (Int32.ofNat (w))), .val (.int (Int32.ofNat (f))), .val (.int (Int32.ofNat (t))), .val (.ref b1), .val (.ref b18), .val (.int (Int32.ofNat ((t - f) / w))), .val (.int (Int32.ofNat (f + (t - f) / w * w))), .val (.int (1 : Int32))] [.int (bt a b (perm f (f + (t - f) / w * w) w 15)), .int (bt a b (perm f (f + (t - f) / w * w) w 15)), .int (1 : Int32)]
        refine C.icmpF 1017 at_1014 rfl (teq rfl).2 ?_
        refine C.iconst 1018 (1 : Int32) at_1017 rfl rfl ?_
        refine C.goto 1022 at_1018 rfl ?_
        refine C.iand 1023 at_1022 rfl ?_
        show W h 2 32 1023 #[.val (.long a), .second, .val (.long b), .second, .val (.int sel), .val (.int pf), .val (.int pt), .val (.int sv), .val (.ref vr), .val (.int (Int32.ofNat (w))), .val (.int (Int32.ofNat (f))), .val (.int (Int32.ofNat (t))), .val (.ref b1), .val (.ref b18), .val (.int (Int32.ofNat ((t - f) / w))), .val (.int (Int32.ofNat (f + (t - f) / w * w))), .val (.int (1 : Int32))] [.int (1 : Int32)]
        refine C.istore 1025 #[.val (.long a), .second, .val (.long b), .second, .val (.int sel), .val (.int pf), .val (.int pt), .val (.int sv), .val (.ref vr), .val (.int (Int32.ofNat (w))), .val (.int (Int32.ofNat (f))), .val (.int (Int32.ofNat (t))), .val (.ref b1), .val (.ref b18), .val (.int (Int32.ofNat ((t - f) / w))), .val (.int (Int32.ofNat (f + (t - f) / w * w))), .val (.int (1 : Int32))] at_1023 rfl rfl ?_
        refine C.iload 1027 at_1025 rfl rfl ?_
        exact C.retI .boolean at_1027 rfl (by simp) rfl (by decide) (by decide) rfl
      by_cases hc : t < f
      · have q := (o_lt (x := t) (y := f) (by omega) (by omega)).mpr hc
        refine C.iload 509 at_507 rfl rfl ?_
        refine C.iload 511 at_509 rfl rfl ?_
        refine C.icmpT 525 at_511 rfl (tlt q).1 ?_
        refine C.iconst 526 (0 : Int32) at_525 rfl rfl ?_
        have e0 : (t - f) / w = 0 := by rw [Nat.sub_eq_zero_of_le (by omega), Nat.zero_div]
        rw [e0] at J526
        exact J526
      · have q := fun z => hc ((o_lt (x := t) (y := f) (by omega) (by omega)).mp z)
        refine C.iload 509 at_507 rfl rfl ?_
        refine C.iload 511 at_509 rfl rfl ?_
        refine C.icmpF 514 at_511 rfl (flt q).1 ?_
        refine C.iload 516 at_514 rfl rfl ?_
        refine C.iload 518 at_516 rfl rfl ?_
        refine C.isub 519 at_518 rfl ?_
        rw [o_sub (by omega) (by omega)]
        refine C.iload 521 at_519 rfl rfl ?_
        refine C.idiv 522 at_521 rfl (o_ne (by omega) (by omega)) ?_
        rw [o_div (by omega) (by omega)]
        refine C.goto 526 at_522 rfl ?_
        exact J526
    refine C.kept fun hE => ?_
    by_cases h1 : w = 1
    · refine C.callV 507 (as := [.ref b18, .int (Int32.ofNat (f)), .int (Int32.ofNat (t))]) (rest := []) (rm := ⟨1, 0, 0, 12⟩) 0 at_504 rfl (tw 9) (tw 10) (tw 12) nfSelf (tw 11) (tw 1) (tw 13) (by decide) (E.ext hE) (sbo1 l Z a0' hw _ vr b18 zb18 f t w hf ht E F h1) pd2 rfl rfl (Nat.le_of_eq rfl) (by decide) (by decide) (by decide) (by decide) rfl ?_
      refine same_intro ?_
      show W h34 2 32 507 #[.val (.long a), .second, .val (.long b), .second, .val (.int sel), .val (.int pf), .val (.int pt), .val (.int sv), .val (.ref vr), .val (.int (Int32.ofNat (w))), .val (.int (Int32.ofNat (f))), .val (.int (Int32.ofNat (t))), .val (.ref b1), .val (.ref b18), .unset, .unset, .unset] []
      refine J507 _ Ao ?_
      subst h1
      simp only [perm_one]
      exact Aa
    · have hw3 : w = 2 ∨ w = 4 ∨ w = 8 := by omega
      have Bb : Bs ((List.range 16).map fun i => Value.int (bt a b i)) := fun v hv => by obtain ⟨i, -, rfl⟩ := List.mem_map.mp hv; exact ⟨_, rfl, bt_nar a b i⟩
      refine C.callV 507 (as := [.ref b18, .int (Int32.ofNat (f)), .int (Int32.ofNat (t))]) (rest := []) (rm := ⟨1, 0, 0, 12⟩) 0 at_504 rfl (tw 9) (tw 10) (tw 12) nfSelf (tw 11) (tw 1) (tw 13) (by decide) (E.ext hE) (sbo l Z a0' hw _ vr b18 zb18 f t w hf ht E F _ (by simp) Bb Aa (by omega) (by omega)) pd2 rfl rfl (Nat.le_of_eq rfl) (by decide) (by decide) (by decide) (by decide) rfl ?_
      rintro v h' ⟨rfl, K', A'⟩
      show W h' 2 32 507 #[.val (.long a), .second, .val (.long b), .second, .val (.int sel), .val (.int pf), .val (.int pt), .val (.int sv), .val (.ref vr), .val (.int (Int32.ofNat (w))), .val (.int (Int32.ofNat (f))), .val (.int (Int32.ofNat (t))), .val (.ref b1), .val (.ref b18), .unset, .unset, .unset] []
      rw [outF_map, law_all hw3 hf ht, List.map_map] at A'
      exact J507 h' (Ao.keep K' (ninS ne_b1_b18 nin0)) A'
  refine C.iload 2 at_0 rfl rfl ?_
  refine C.bipush 4 (7 : Int32) at_2 rfl rfl ?_
  refine C.iand 5 at_4 rfl ?_
  refine C.istore 7 #[.val (.long a), .second, .val (.long b), .second, .val (.int sel), .val (.int pf), .val (.int pt), .val (.int (sel &&& (7 : Int32))), .unset, .unset, .unset, .unset, .unset, .unset, .unset, .unset, .unset] at_5 rfl rfl ?_
  obtain ⟨i, hi, e⟩ := and7 sel
  generalize sel &&& (7 : Int32) = sv at e J136 ⊢
  subst e
  match i, hi with
  | 0, _ =>
    show W Z.heap 0 0 7 #[.val (.long a), .second, .val (.long b), .second, .val (.int sel), .val (.int pf), .val (.int pt), .val (.int (0 : Int32)), .unset, .unset, .unset, .unset, .unset, .unset, .unset, .unset, .unset] []
    refine C.iload 9 at_7 rfl rfl ?_
    refine C.ifF 12 at_9 rfl (by decide) ?_
    refine C.getstatic 15 at_12 rfl (tw 0) SAE ?_
    refine C.astore 17 #[.val (.long a), .second, .val (.long b), .second, .val (.int sel), .val (.int pf), .val (.int pt), .val (.int (0 : Int32)), .val (.ref aAE), .unset, .unset, .unset, .unset, .unset, .unset, .unset, .unset] at_15 rfl rfl rfl ?_
    refine C.iconst 18 (1 : Int32) at_17 rfl rfl ?_
    refine C.istore 20 #[.val (.long a), .second, .val (.long b), .second, .val (.int sel), .val (.int pf), .val (.int pt), .val (.int (0 : Int32)), .val (.ref aAE), .val (.int (1 : Int32)), .unset, .unset, .unset, .unset, .unset, .unset, .unset] at_18 rfl rfl ?_
    refine C.goto 136 at_20 rfl ?_
    exact J136 aAE 1 EAE FAE (by decide)
  | 1, _ =>
    show W Z.heap 0 0 7 #[.val (.long a), .second, .val (.long b), .second, .val (.int sel), .val (.int pf), .val (.int pt), .val (.int (1 : Int32)), .unset, .unset, .unset, .unset, .unset, .unset, .unset, .unset, .unset] []
    refine C.iload 9 at_7 rfl rfl ?_
    refine C.ifT 23 at_9 rfl (by decide) ?_
    refine C.iload 25 at_23 rfl rfl ?_
    refine C.iconst 26 (1 : Int32) at_25 rfl rfl ?_
    refine C.icmpF 29 at_26 rfl (by decide) ?_
    refine C.getstatic 32 at_29 rfl (tw 28) SOB ?_
    refine C.astore 34 #[.val (.long a), .second, .val (.long b), .second, .val (.int sel), .val (.int pf), .val (.int pt), .val (.int (1 : Int32)), .val (.ref aOB), .unset, .unset, .unset, .unset, .unset, .unset, .unset, .unset] at_32 rfl rfl rfl ?_
    refine C.iconst 35 (1 : Int32) at_34 rfl rfl ?_
    refine C.istore 37 #[.val (.long a), .second, .val (.long b), .second, .val (.int sel), .val (.int pf), .val (.int pt), .val (.int (1 : Int32)), .val (.ref aOB), .val (.int (1 : Int32)), .unset, .unset, .unset, .unset, .unset, .unset, .unset] at_35 rfl rfl ?_
    refine C.goto 136 at_37 rfl ?_
    exact J136 aOB 1 EOB FOB (by decide)
  | 2, _ =>
    show W Z.heap 0 0 7 #[.val (.long a), .second, .val (.long b), .second, .val (.int sel), .val (.int pf), .val (.int pt), .val (.int (2 : Int32)), .unset, .unset, .unset, .unset, .unset, .unset, .unset, .unset, .unset] []
    refine C.iload 9 at_7 rfl rfl ?_
    refine C.ifT 23 at_9 rfl (by decide) ?_
    refine C.iload 25 at_23 rfl rfl ?_
    refine C.iconst 26 (1 : Int32) at_25 rfl rfl ?_
    refine C.icmpT 40 at_26 rfl (by decide) ?_
    refine C.iload 42 at_40 rfl rfl ?_
    refine C.iconst 43 (2 : Int32) at_42 rfl rfl ?_
    refine C.icmpF 46 at_43 rfl (by decide) ?_
    refine C.getstatic 49 at_46 rfl (tw 24) SUS ?_
    refine C.astore 51 #[.val (.long a), .second, .val (.long b), .second, .val (.int sel), .val (.int pf), .val (.int pt), .val (.int (2 : Int32)), .val (.ref aUS), .unset, .unset, .unset, .unset, .unset, .unset, .unset, .unset] at_49 rfl rfl rfl ?_
    refine C.iconst 52 (2 : Int32) at_51 rfl rfl ?_
    refine C.istore 54 #[.val (.long a), .second, .val (.long b), .second, .val (.int sel), .val (.int pf), .val (.int pt), .val (.int (2 : Int32)), .val (.ref aUS), .val (.int (2 : Int32)), .unset, .unset, .unset, .unset, .unset, .unset, .unset] at_52 rfl rfl ?_
    refine C.goto 136 at_54 rfl ?_
    exact J136 aUS 2 EUS FUS (by decide)
  | 3, _ =>
    show W Z.heap 0 0 7 #[.val (.long a), .second, .val (.long b), .second, .val (.int sel), .val (.int pf), .val (.int pt), .val (.int (3 : Int32)), .unset, .unset, .unset, .unset, .unset, .unset, .unset, .unset, .unset] []
    refine C.iload 9 at_7 rfl rfl ?_
    refine C.ifT 23 at_9 rfl (by decide) ?_
    refine C.iload 25 at_23 rfl rfl ?_
    refine C.iconst 26 (1 : Int32) at_25 rfl rfl ?_
    refine C.icmpT 40 at_26 rfl (by decide) ?_
    refine C.iload 42 at_40 rfl rfl ?_
    refine C.iconst 43 (2 : Int32) at_42 rfl rfl ?_
    refine C.icmpT 57 at_43 rfl (by decide) ?_
    refine C.iload 59 at_57 rfl rfl ?_
    refine C.iconst 60 (3 : Int32) at_59 rfl rfl ?_
    refine C.icmpF 63 at_60 rfl (by decide) ?_
    refine C.getstatic 66 at_63 rfl (tw 32) SOW ?_
    refine C.astore 68 #[.val (.long a), .second, .val (.long b), .second, .val (.int sel), .val (.int pf), .val (.int pt), .val (.int (3 : Int32)), .val (.ref aOW), .unset, .unset, .unset, .unset, .unset, .unset, .unset, .unset] at_66 rfl rfl rfl ?_
    refine C.iconst 69 (2 : Int32) at_68 rfl rfl ?_
    refine C.istore 71 #[.val (.long a), .second, .val (.long b), .second, .val (.int sel), .val (.int pf), .val (.int pt), .val (.int (3 : Int32)), .val (.ref aOW), .val (.int (2 : Int32)), .unset, .unset, .unset, .unset, .unset, .unset, .unset] at_69 rfl rfl ?_
    refine C.goto 136 at_71 rfl ?_
    exact J136 aOW 2 EOW FOW (by decide)
  | 4, _ =>
    show W Z.heap 0 0 7 #[.val (.long a), .second, .val (.long b), .second, .val (.int sel), .val (.int pf), .val (.int pt), .val (.int (4 : Int32)), .unset, .unset, .unset, .unset, .unset, .unset, .unset, .unset, .unset] []
    refine C.iload 9 at_7 rfl rfl ?_
    refine C.ifT 23 at_9 rfl (by decide) ?_
    refine C.iload 25 at_23 rfl rfl ?_
    refine C.iconst 26 (1 : Int32) at_25 rfl rfl ?_
    refine C.icmpT 40 at_26 rfl (by decide) ?_
    refine C.iload 42 at_40 rfl rfl ?_
    refine C.iconst 43 (2 : Int32) at_42 rfl rfl ?_
    refine C.icmpT 57 at_43 rfl (by decide) ?_
    refine C.iload 59 at_57 rfl rfl ?_
    refine C.iconst 60 (3 : Int32) at_59 rfl rfl ?_
    refine C.icmpT 74 at_60 rfl (by decide) ?_
    refine C.iload 76 at_74 rfl rfl ?_
    refine C.iconst 77 (4 : Int32) at_76 rfl rfl ?_
    refine C.icmpF 80 at_77 rfl (by decide) ?_
    refine C.getstatic 83 at_80 rfl (tw 34) SUL ?_
    refine C.astore 85 #[.val (.long a), .second, .val (.long b), .second, .val (.int sel), .val (.int pf), .val (.int pt), .val (.int (4 : Int32)), .val (.ref aUL), .unset, .unset, .unset, .unset, .unset, .unset, .unset, .unset] at_83 rfl rfl rfl ?_
    refine C.iconst 86 (4 : Int32) at_85 rfl rfl ?_
    refine C.istore 88 #[.val (.long a), .second, .val (.long b), .second, .val (.int sel), .val (.int pf), .val (.int pt), .val (.int (4 : Int32)), .val (.ref aUL), .val (.int (4 : Int32)), .unset, .unset, .unset, .unset, .unset, .unset, .unset] at_86 rfl rfl ?_
    refine C.goto 136 at_88 rfl ?_
    exact J136 aUL 4 EUL FUL (by decide)
  | 5, _ =>
    show W Z.heap 0 0 7 #[.val (.long a), .second, .val (.long b), .second, .val (.int sel), .val (.int pf), .val (.int pt), .val (.int (5 : Int32)), .unset, .unset, .unset, .unset, .unset, .unset, .unset, .unset, .unset] []
    refine C.iload 9 at_7 rfl rfl ?_
    refine C.ifT 23 at_9 rfl (by decide) ?_
    refine C.iload 25 at_23 rfl rfl ?_
    refine C.iconst 26 (1 : Int32) at_25 rfl rfl ?_
    refine C.icmpT 40 at_26 rfl (by decide) ?_
    refine C.iload 42 at_40 rfl rfl ?_
    refine C.iconst 43 (2 : Int32) at_42 rfl rfl ?_
    refine C.icmpT 57 at_43 rfl (by decide) ?_
    refine C.iload 59 at_57 rfl rfl ?_
    refine C.iconst 60 (3 : Int32) at_59 rfl rfl ?_
    refine C.icmpT 74 at_60 rfl (by decide) ?_
    refine C.iload 76 at_74 rfl rfl ?_
    refine C.iconst 77 (4 : Int32) at_76 rfl rfl ?_
    refine C.icmpT 91 at_77 rfl (by decide) ?_
    refine C.iload 93 at_91 rfl rfl ?_
    refine C.iconst 94 (5 : Int32) at_93 rfl rfl ?_
    refine C.icmpF 97 at_94 rfl (by decide) ?_
    refine C.getstatic 100 at_97 rfl (tw 26) SFL ?_
    refine C.astore 102 #[.val (.long a), .second, .val (.long b), .second, .val (.int sel), .val (.int pf), .val (.int pt), .val (.int (5 : Int32)), .val (.ref aFL), .unset, .unset, .unset, .unset, .unset, .unset, .unset, .unset] at_100 rfl rfl rfl ?_
    refine C.iconst 103 (4 : Int32) at_102 rfl rfl ?_
    refine C.istore 105 #[.val (.long a), .second, .val (.long b), .second, .val (.int sel), .val (.int pf), .val (.int pt), .val (.int (5 : Int32)), .val (.ref aFL), .val (.int (4 : Int32)), .unset, .unset, .unset, .unset, .unset, .unset, .unset] at_103 rfl rfl ?_
    refine C.goto 136 at_105 rfl ?_
    exact J136 aFL 4 EFL FFL (by decide)
  | 6, _ =>
    show W Z.heap 0 0 7 #[.val (.long a), .second, .val (.long b), .second, .val (.int sel), .val (.int pf), .val (.int pt), .val (.int (6 : Int32)), .unset, .unset, .unset, .unset, .unset, .unset, .unset, .unset, .unset] []
    refine C.iload 9 at_7 rfl rfl ?_
    refine C.ifT 23 at_9 rfl (by decide) ?_
    refine C.iload 25 at_23 rfl rfl ?_
    refine C.iconst 26 (1 : Int32) at_25 rfl rfl ?_
    refine C.icmpT 40 at_26 rfl (by decide) ?_
    refine C.iload 42 at_40 rfl rfl ?_
    refine C.iconst 43 (2 : Int32) at_42 rfl rfl ?_
    refine C.icmpT 57 at_43 rfl (by decide) ?_
    refine C.iload 59 at_57 rfl rfl ?_
    refine C.iconst 60 (3 : Int32) at_59 rfl rfl ?_
    refine C.icmpT 74 at_60 rfl (by decide) ?_
    refine C.iload 76 at_74 rfl rfl ?_
    refine C.iconst 77 (4 : Int32) at_76 rfl rfl ?_
    refine C.icmpT 91 at_77 rfl (by decide) ?_
    refine C.iload 93 at_91 rfl rfl ?_
    refine C.iconst 94 (5 : Int32) at_93 rfl rfl ?_
    refine C.icmpT 108 at_94 rfl (by decide) ?_
    refine C.iload 110 at_108 rfl rfl ?_
    refine C.bipush 112 (6 : Int32) at_110 rfl rfl ?_
    refine C.icmpF 115 at_112 rfl (by decide) ?_
    refine C.getstatic 118 at_115 rfl (tw 30) SFD ?_
    refine C.astore 120 #[.val (.long a), .second, .val (.long b), .second, .val (.int sel), .val (.int pf), .val (.int pt), .val (.int (6 : Int32)), .val (.ref aFD), .unset, .unset, .unset, .unset, .unset, .unset, .unset, .unset] at_118 rfl rfl rfl ?_
    refine C.bipush 122 (8 : Int32) at_120 rfl rfl ?_
    refine C.istore 124 #[.val (.long a), .second, .val (.long b), .second, .val (.int sel), .val (.int pf), .val (.int pt), .val (.int (6 : Int32)), .val (.ref aFD), .val (.int (8 : Int32)), .unset, .unset, .unset, .unset, .unset, .unset, .unset] at_122 rfl rfl ?_
    refine C.goto 136 at_124 rfl ?_
    exact J136 aFD 8 EFD FFD (by decide)
  | 7, _ =>
    show W Z.heap 0 0 7 #[.val (.long a), .second, .val (.long b), .second, .val (.int sel), .val (.int pf), .val (.int pt), .val (.int (7 : Int32)), .unset, .unset, .unset, .unset, .unset, .unset, .unset, .unset, .unset] []
    refine C.iload 9 at_7 rfl rfl ?_
    refine C.ifT 23 at_9 rfl (by decide) ?_
    refine C.iload 25 at_23 rfl rfl ?_
    refine C.iconst 26 (1 : Int32) at_25 rfl rfl ?_
    refine C.icmpT 40 at_26 rfl (by decide) ?_
    refine C.iload 42 at_40 rfl rfl ?_
    refine C.iconst 43 (2 : Int32) at_42 rfl rfl ?_
    refine C.icmpT 57 at_43 rfl (by decide) ?_
    refine C.iload 59 at_57 rfl rfl ?_
    refine C.iconst 60 (3 : Int32) at_59 rfl rfl ?_
    refine C.icmpT 74 at_60 rfl (by decide) ?_
    refine C.iload 76 at_74 rfl rfl ?_
    refine C.iconst 77 (4 : Int32) at_76 rfl rfl ?_
    refine C.icmpT 91 at_77 rfl (by decide) ?_
    refine C.iload 93 at_91 rfl rfl ?_
    refine C.iconst 94 (5 : Int32) at_93 rfl rfl ?_
    refine C.icmpT 108 at_94 rfl (by decide) ?_
    refine C.iload 110 at_108 rfl rfl ?_
    refine C.bipush 112 (6 : Int32) at_110 rfl rfl ?_
    refine C.icmpT 127 at_112 rfl (by decide) ?_
    refine C.getstatic 130 at_127 rfl (tw 36) SOV ?_
    refine C.astore 132 #[.val (.long a), .second, .val (.long b), .second, .val (.int sel), .val (.int pf), .val (.int pt), .val (.int (7 : Int32)), .val (.ref aOV), .unset, .unset, .unset, .unset, .unset, .unset, .unset, .unset] at_130 rfl rfl rfl ?_
    refine C.bipush 134 (8 : Int32) at_132 rfl rfl ?_
    refine C.istore 136 #[.val (.long a), .second, .val (.long b), .second, .val (.int sel), .val (.int pf), .val (.int pt), .val (.int (7 : Int32)), .val (.ref aOV), .val (.int (8 : Int32)), .unset, .unset, .unset, .unset, .unset, .unset, .unset] at_134 rfl rfl ?_
    exact J136 aOV 8 EOV FOV (by decide)
  | n + 8, h => exact absurd h (by omega)
set_option maxRecDepth 65536 in
set_option maxHeartbeats 40000000 in
theorem comes_1 {Post : Tables → Env → Array Value → State → Outcome → State → Prop} (hpost : ∀ tb e args s v u, (limb_1_1.after args s (.returned v) u = true ∧ limb_1_2.after args s (.returned v) u = true ∧ True) → FrameEnd s (.returned v) u (Jvm.fieldLocs frame_1_writes args s ++ Jvm.arrayLocs frame_1_arrays args s ++ Jvm.staticLocs frame_1_statics s) 16 128 → Post tb e args s (.returned v) u) :
    ArmFor flags0 classFile x code maxLocals ret World_1 tables_1 room_1 Calls_1 rest_1 Pre_1 Post := by
  intro l hfl _ _ p e ha hc hk s m args below hf hA hF happ hP
  obtain ⟨hcalls, hrest, hpre⟩ := hP
  obtain ⟨-, -, -, hnamed, -, -, -, hat⟩ := (Spec.applies_iff hf).mp happ
  obtain ⟨hg, hn⟩ := and_e (Cond.before_iff.mp (show (Jvm.Cond.and given_1 narrow_1).before args s = true from hpre))
  obtain ⟨h1, h2⟩ := and_e hg
  obtain ⟨w0, w1, w2, w3, w4, rfl⟩ : ∃ w0 w1 w2 w3 w4 : Value, args = #[w0, w1, w2, w3, w4] := by
    have hs : args.size = 5 := by simpa [Cond.value, given_1] using h1
    obtain ⟨L⟩ := args
    match L, hs with
    | [w0, w1, w2, w3, w4], _ => exact ⟨w0, w1, w2, w3, w4, rfl⟩
  have hw := fun d (hd : d ∈ tables_1) => atoms_spec (ws := Jvm.Cond.code x code maxLocals ret :: tables_1) hat d (List.mem_cons_of_mem _ hd)
  have hfit : Fit s := fun {y c} hc i hi => by
    obtain ⟨ha, rfl⟩ := Array.getElem?_eq_some_iff.mp hc
    have q := List.all_eq_true.mp ((Array.all_eq_true_iff_forall_mem.mp hF) _ (Array.getElem_mem ha)) i (List.mem_range.mpr hi)
    simpa [Array.getElem?_eq_getElem hi] using q
  obtain ⟨q0, h2⟩ := and_e h2
  obtain ⟨i0, e0⟩ := isL_v q0
  obtain rfl : w0 = (.long i0) := Option.some.inj e0
  obtain ⟨q1, h2⟩ := and_e h2
  obtain ⟨i1, e1⟩ := isL_v q1
  obtain rfl : w1 = (.long i1) := Option.some.inj e1
  obtain ⟨q2, h2⟩ := and_e h2
  obtain ⟨i2, e2⟩ := is_v q2
  obtain rfl : w2 = (.int i2) := Option.some.inj e2
  obtain ⟨q3, h2⟩ := and_e h2
  obtain ⟨i3, e3⟩ := is_v q3
  obtain rfl : w3 = (.int i3) := Option.some.inj e3
  obtain ⟨i4, e4⟩ := is_v h2
  obtain rfl : w4 = (.int i4) := Option.some.inj e4
  obtain ⟨c0, hn⟩ := and_e hn
  obtain ⟨c1, hn⟩ := and_e hn
  obtain ⟨c2, hn⟩ := and_e hn
  obtain ⟨c3, hn⟩ := and_e hn
  obtain ⟨c4, hn⟩ := and_e hn
  obtain ⟨c5, hn⟩ := and_e hn
  obtain ⟨c6, hn⟩ := and_e hn
  obtain ⟨c7, hn⟩ := and_e hn
  obtain ⟨c8, hn⟩ := and_e hn
  obtain ⟨c9, hn⟩ := and_e hn
  obtain ⟨c10, hn⟩ := and_e hn
  obtain ⟨c11, hn⟩ := and_e hn
  obtain ⟨c12, hn⟩ := and_e hn
  obtain ⟨c13, hn⟩ := and_e hn
  obtain ⟨c14, hn⟩ := and_e hn
  obtain ⟨aAE, vAE⟩ := exa_v c0
  have SAE := Sta.start vAE (Or.inr ⟨hw _ (tw 1), hw _ (tw 2)⟩)
  have EAE := Exa.start vAE c0
  have FAE := fld_of vAE c1
  obtain ⟨aOB, vOB⟩ := exa_v c6
  have SOB := Sta.start vOB (Or.inr ⟨hw _ (tw 1), hw _ (tw 29)⟩)
  have EOB := Exa.start vOB c6
  have FOB := fld_of vOB c7
  obtain ⟨aUS, vUS⟩ := exa_v c2
  have SUS := Sta.start vUS (Or.inr ⟨hw _ (tw 1), hw _ (tw 25)⟩)
  have EUS := Exa.start vUS c2
  have FUS := fld_of vUS c3
  obtain ⟨aOW, vOW⟩ := exa_v c10
  have SOW := Sta.start vOW (Or.inr ⟨hw _ (tw 1), hw _ (tw 33)⟩)
  have EOW := Exa.start vOW c10
  have FOW := fld_of vOW c11
  obtain ⟨aUL, vUL⟩ := exa_v c12
  have SUL := Sta.start vUL (Or.inr ⟨hw _ (tw 1), hw _ (tw 35)⟩)
  have EUL := Exa.start vUL c12
  have FUL := fld_of vUL c13
  obtain ⟨aFL, vFL⟩ := exa_v c4
  have SFL := Sta.start vFL (Or.inr ⟨hw _ (tw 1), hw _ (tw 27)⟩)
  have EFL := Exa.start vFL c4
  have FFL := fld_of vFL c5
  obtain ⟨aFD, vFD⟩ := exa_v c8
  have SFD := Sta.start vFD (Or.inr ⟨hw _ (tw 1), hw _ (tw 31)⟩)
  have EFD := Exa.start vFD c8
  have FFD := fld_of vFD c9
  obtain ⟨aOV, vOV⟩ := exa_v c14
  have SOV := Sta.start vOV (Or.inr ⟨hw _ (tw 1), hw _ (tw 37)⟩)
  have EOV := Exa.start vOV c14
  have FOV := fld_of vOV hn
  obtain ⟨n, o, h1, h2, h3, _, L, rfl, ⟨rfl, -, N⟩, hq⟩ := law_con l s _ hw i0 i1 i2 i3 i4 aAE aOB aUS aOW aUL aFL aFD aOV SAE EAE FAE SOB EOB FOB SUS EUS FUS SOW EOW FOW SUL EUL FUL SFL EFL FFL SFD EFD FFD SOV EOV FOV ⟨Nat.le_refl _, fun _ _ q => q⟩ tables_1 p e ha hc hk s m _ below hf ((Spec.applies_iff_loose hf).mp happ).1 ⟨rfl, State.Warmed39.refl s, rfl⟩ trivial
  refine ⟨n, _, h1, h2, h3, hpost _ _ _ _ _ _ ⟨Cond.after_iff.mpr rfl, Cond.after_iff.mpr (eq_i res_at (Term.int_eval (1)) rfl), trivial⟩ ⟨hq.1, hq.2.1, (hq.2.2.sift fun y hy => Or.inr (N y hy)).mono (by decide) (by decide)⟩⟩
theorem main_1_1 : Claimed_1_1 := comes_1 fun _ _ _ _ _ _ h hF => ⟨h.1, hF⟩
theorem main_1_2 : Claimed_1_2 := comes_1 fun _ _ _ _ _ _ h hF => ⟨h.2.1, hF⟩
end Jvm.Pilot.@@N@@
namespace Jvm.Pilot.@@N@@
open Jvm Jvm.ClassFile Sem Op Lib Jvm.Free Jvm.Stand Jvm.Pilot.@@N@@.Jvm.D
/-! MADE BY PROGRAM (witnessworld.py) out of the Statement's table words and the real class files: 12 classes; the members and pool entries that the words name. The judged class is class 1, her method 3. -/
namespace start1
open Jvm.ClassFile
def u (s : String) : CpInfo := .utf8 (stringToUtf16 s)
/-- a pool by its gaps: so many unusable entries, then the entry; so many at the end -/
def gap : Nat → List CpInfo → List CpInfo
  | 0, r => r
  | n + 1, r => .unusable :: gap n r
def poolList (es : List (Nat × CpInfo)) (last : Nat) : List CpInfo := es.foldr (fun e r => gap e.1 (e.2 :: r)) (gap last [])
def pool (es : List (Nat × CpInfo)) (last : Nat) : Array CpInfo := ⟨poolList es last⟩
def fileOf (pool : Array CpInfo) (this : Nat) (attrs : Array Attribute := #[]) (ms : Array MethodInfo := #[]) (fl : Nat := 33) (sup : Nat := 0) (ifs : Array Nat := #[]) (fds : Array FieldInfo := #[]) : ClassFile where
  minorVersion := 0
  majorVersion := 65
  constantPool := pool
  accessFlags := fl
  thisClass := this
  superClass := sup
  interfaces := ifs
  fields := fds
  methods := ms
  attributes := attrs
def plain (name : String) (sup : Option ClassId) : Class where
  name := name
  kind := .ordinary
  loader := none
  accessFlags := 33
  super := sup
  interfaces := #[]
  cf := none
  fields := #[]
  methods := #[]
  instanceTypes := #[]
  staticTypes := #[]
  resolved := #[]
  callSites := []
  init := .initialized
  statics := none
  mirror := none

def pool0 : Array CpInfo := pool [(5, u "<init>"), (0, u "()V"), (1, .class_ 10), (1, u "java/lang/Object")] 113

def k0m0 : Method := { name := "<init>", desc := "()V", sig := { parameters := [], returnType := none }, accessFlags := 1, code := none }
/-- java/lang/Object -/
def k0 : Class := { plain "java/lang/Object" none with
  accessFlags := 33
  interfaces := #[]
  cf := some (fileOf pool0 8 #[] #[{ accessFlags := 1, nameIndex := 5, descriptorIndex := 6, attributes := #[] }] 33 0 #[] #[])
  fields := #[]
  methods := #[k0m0]
  instanceTypes := #[]
  staticTypes := #[]
  resolved := Array.replicate 124 none
  statics := none }

def pool1 : Array CpInfo := pool [(2, .class_ 4), (1, u "java/lang/Object"), (0, u "<init>"), (0, u "()V"), (0, .fieldref 8 9), (0, .class_ 10), (0, .nameAndType 11 12), (0, u "com/example/shroud/shroud/dicom/Vr"), (0, u "AE"), (0, u "Lcom/example/shroud/shroud/dicom/Vr;"), (0, .fieldref 8 14), (0, .nameAndType 15 12), (0, u "OB"), (0, .fieldref 8 17), (0, .nameAndType 18 12), (0, u "US"), (0, .fieldref 8 20), (0, .nameAndType 21 12), (0, u "OW"), (0, .fieldref 8 23), (0, .nameAndType 24 12), (0, u "UL"), (0, .fieldref 8 26), (0, .nameAndType 27 12), (0, u "FL"), (0, .fieldref 8 29), (0, .nameAndType 30 12), (0, u "FD"), (0, .fieldref 8 32), (0, .nameAndType 33 12), (0, u "OV"), (0, .integer 2147483647), (0, .methodref 36 37), (0, .class_ 38), (0, .nameAndType 39 40), (0, u "com/example/shroud/shroud/dicom/VrSwapByteOrderPinLaw"), (0, u "byteOf"), (0, u "(JJI)B"), (0, .methodref 8 42), (0, .nameAndType 43 44), (0, u "swapByteOrder"), (0, u "([BII)V"), (0, .methodref 36 46), (0, .nameAndType 47 48), (0, u "expected"), (0, u "([BIIII)B"), (3, u "law"), (0, u "(JJIII)Z")] 4

def k1m0 : Method := { name := "<init>", desc := "()V", sig := { parameters := [], returnType := none }, accessFlags := 2, code := none }
def k1c1 : Code := { maxStack := 5, maxLocals := 5, code := method_2_code, exceptionTable := #[], attributes := #[] }
def k1m1 : Method := { name := "byteOf", desc := "(JJI)B", sig := { parameters := [.long, .long, .int], returnType := some .byte }, accessFlags := 10, code := some k1c1 }
def k1c2 : Code := { maxStack := 3, maxLocals := 6, code := method_3_code, exceptionTable := #[], attributes := #[] }
def k1m2 : Method := { name := "expected", desc := "([BIIII)B", sig := { parameters := [(.array .byte), .int, .int, .int, .int], returnType := some .byte }, accessFlags := 10, code := some k1c2 }
def k1c3 : Code := { maxStack := 8, maxLocals := 17, code := code, exceptionTable := #[], attributes := #[] }
def k1m3 : Method := { name := "law", desc := "(JJIII)Z", sig := { parameters := [.long, .long, .int, .int, .int], returnType := some .boolean }, accessFlags := 9, code := some k1c3 }
/-- com/example/shroud/shroud/dicom/VrSwapByteOrderPinLaw -/
def k1 : Class := { plain "com/example/shroud/shroud/dicom/VrSwapByteOrderPinLaw" (some 0) with
  accessFlags := 49
  interfaces := #[]
  cf := some (fileOf pool1 36 #[] #[{ accessFlags := 2, nameIndex := 5, descriptorIndex := 6, attributes := #[] }, { accessFlags := 10, nameIndex := 39, descriptorIndex := 40, attributes := #[] }, { accessFlags := 10, nameIndex := 47, descriptorIndex := 48, attributes := #[] }, { accessFlags := 9, nameIndex := 52, descriptorIndex := 53, attributes := #[] }] 49 2 #[] #[])
  fields := #[]
  methods := #[k1m0, k1m1, k1m2, k1m3]
  instanceTypes := #[]
  staticTypes := #[]
  resolved := Array.replicate 58 none
  statics := none }

def pool2 : Array CpInfo := pool [(1, .class_ 2), (0, u "java/lang/constant/Constable"), (0, .class_ 4), (0, u "java/lang/Object")] 6

/-- java/lang/constant/Constable -/
def k2 : Class := { plain "java/lang/constant/Constable" (some 0) with
  accessFlags := 1537
  interfaces := #[]
  cf := some (fileOf pool2 1 #[] #[] 1537 3 #[] #[])
  fields := #[]
  methods := #[]
  instanceTypes := #[]
  staticTypes := #[]
  resolved := Array.replicate 11 none
  statics := none }

def pool3 : Array CpInfo := pool [(1, .class_ 2), (0, u "java/lang/Comparable"), (0, .class_ 4), (0, u "java/lang/Object")] 7

/-- java/lang/Comparable -/
def k3 : Class := { plain "java/lang/Comparable" (some 0) with
  accessFlags := 1537
  interfaces := #[]
  cf := some (fileOf pool3 1 #[] #[] 1537 3 #[] #[])
  fields := #[]
  methods := #[]
  instanceTypes := #[]
  staticTypes := #[]
  resolved := Array.replicate 12 none
  statics := none }

def pool4 : Array CpInfo := pool [(1, .class_ 2), (0, u "java/io/Serializable"), (0, .class_ 4), (0, u "java/lang/Object")] 2

/-- java/io/Serializable -/
def k4 : Class := { plain "java/io/Serializable" (some 0) with
  accessFlags := 1537
  interfaces := #[]
  cf := some (fileOf pool4 1 #[] #[] 1537 3 #[] #[])
  fields := #[]
  methods := #[]
  instanceTypes := #[]
  staticTypes := #[]
  resolved := Array.replicate 7 none
  statics := none }

def pool5 : Array CpInfo := pool [(2, .class_ 4), (1, u "java/lang/Enum"), (0, u "name"), (0, u "Ljava/lang/String;"), (2, u "ordinal"), (0, u "I"), (1, .class_ 14), (1, u "java/lang/Object"), (4, u "hash"), (86, .class_ 108), (1, u "java/lang/Enum$EnumDesc"), (2, .class_ 112), (0, u "java/lang/constant/Constable"), (0, .class_ 114), (0, u "java/lang/Comparable"), (0, .class_ 116), (0, u "java/io/Serializable")] 87

/-- java/lang/Enum -/
def k5 : Class := { plain "java/lang/Enum" (some 0) with
  accessFlags := 1057
  interfaces := #[2, 3, 4]
  cf := some (fileOf pool5 2 #[.nestMembers #[106]] #[] 1057 12 #[111, 113, 115] #[{ accessFlags := 18, nameIndex := 5, descriptorIndex := 6, attributes := #[] }, { accessFlags := 18, nameIndex := 9, descriptorIndex := 10, attributes := #[] }, { accessFlags := 2, nameIndex := 19, descriptorIndex := 10, attributes := #[] }])
  fields := #[{ name := "name", type := (.object "java/lang/String"), accessFlags := 18, slot := 0, constantValue := 0 }, { name := "ordinal", type := .int, accessFlags := 18, slot := 1, constantValue := 0 }, { name := "hash", type := .int, accessFlags := 2, slot := 2, constantValue := 0 }]
  methods := #[]
  instanceTypes := #[(.object "java/lang/String"), .int, .int]
  staticTypes := #[]
  resolved := Array.replicate 204 none
  statics := none }

def pool6 : Array CpInfo := pool [(1, .class_ 2), (0, u "com/example/shroud/shroud/dicom/Vr"), (2, u "AE"), (0, u "Lcom/example/shroud/shroud/dicom/Vr;"), (2, u "AS"), (2, u "AT"), (2, u "CS"), (2, u "DA"), (2, u "DS"), (2, u "DT"), (2, u "FD"), (2, u "FL"), (2, u "IS"), (2, u "LO"), (2, u "LT"), (2, u "OB"), (2, u "OD"), (2, u "OF"), (2, u "OL"), (2, u "OV"), (2, u "OW"), (2, u "PN"), (2, u "SH"), (2, u "SL"), (2, u "SQ"), (2, u "SS"), (2, u "ST"), (2, u "SV"), (2, u "TM"), (2, u "UC"), (2, u "UI"), (2, u "UL"), (2, u "UN"), (2, u "UR"), (2, u "US"), (2, u "UT"), (2, u "UV"), (2, u "$VALUES"), (0, u "[Lcom/example/shroud/shroud/dicom/Vr;"), (6, .class_ 118), (1, u "java/lang/Enum"), (8, u "length"), (0, u "Lcom/example/shroud/shroud/dicom/Vr$Length;"), (2, u "padding"), (0, u "Lcom/example/shroud/shroud/dicom/Vr$Padding;"), (0, .fieldref 1 134), (0, .nameAndType 135 136), (0, u "wordSize"), (0, u "I"), (1, .class_ 140), (1, u "com/example/shroud/shroud/dicom/Vr$Length"), (2, .class_ 145), (1, u "com/example/shroud/shroud/dicom/Vr$Padding"), (26, u "swapByteOrder"), (0, u "([BII)V"), (0, .methodref 1 175), (0, .nameAndType 176 177), (0, u "hasByteOrder"), (0, u "()Z"), (2, u "BY_CODE")] 102

def k6c0 : Code := { maxStack := 2, maxLocals := 1, code := prog_65_method_7_code, exceptionTable := #[], attributes := #[] }
def k6m0 : Method := { name := "hasByteOrder", desc := "()Z", sig := { parameters := [], returnType := some .boolean }, accessFlags := 0, code := some k6c0 }
def k6c1 : Code := { maxStack := 4, maxLocals := 8, code := prog_65_method_9_code, exceptionTable := #[], attributes := #[] }
def k6m1 : Method := { name := "swapByteOrder", desc := "([BII)V", sig := { parameters := [(.array .byte), .int, .int], returnType := none }, accessFlags := 0, code := some k6c1 }
/-- com/example/shroud/shroud/dicom/Vr -/
def k6 : Class := { plain "com/example/shroud/shroud/dicom/Vr" (some 5) with
  accessFlags := 16433
  interfaces := #[]
  cf := some (fileOf pool6 1 #[.nestMembers #[143, 138]] #[{ accessFlags := 0, nameIndex := 176, descriptorIndex := 177, attributes := #[] }, { accessFlags := 0, nameIndex := 172, descriptorIndex := 173, attributes := #[] }] 16433 116 #[] #[{ accessFlags := 16409, nameIndex := 5, descriptorIndex := 6, attributes := #[] }, { accessFlags := 16409, nameIndex := 9, descriptorIndex := 6, attributes := #[] }, { accessFlags := 16409, nameIndex := 12, descriptorIndex := 6, attributes := #[] }, { accessFlags := 16409, nameIndex := 15, descriptorIndex := 6, attributes := #[] }, { accessFlags := 16409, nameIndex := 18, descriptorIndex := 6, attributes := #[] }, { accessFlags := 16409, nameIndex := 21, descriptorIndex := 6, attributes := #[] }, { accessFlags := 16409, nameIndex := 24, descriptorIndex := 6, attributes := #[] }, { accessFlags := 16409, nameIndex := 27, descriptorIndex := 6, attributes := #[] }, { accessFlags := 16409, nameIndex := 30, descriptorIndex := 6, attributes := #[] }, { accessFlags := 16409, nameIndex := 33, descriptorIndex := 6, attributes := #[] }, { accessFlags := 16409, nameIndex := 36, descriptorIndex := 6, attributes := #[] }, { accessFlags := 16409, nameIndex := 39, descriptorIndex := 6, attributes := #[] }, { accessFlags := 16409, nameIndex := 42, descriptorIndex := 6, attributes := #[] }, { accessFlags := 16409, nameIndex := 45, descriptorIndex := 6, attributes := #[] }, { accessFlags := 16409, nameIndex := 48, descriptorIndex := 6, attributes := #[] }, { accessFlags := 16409, nameIndex := 51, descriptorIndex := 6, attributes := #[] }, { accessFlags := 16409, nameIndex := 54, descriptorIndex := 6, attributes := #[] }, { accessFlags := 16409, nameIndex := 57, descriptorIndex := 6, attributes := #[] }, { accessFlags := 16409, nameIndex := 60, descriptorIndex := 6, attributes := #[] }, { accessFlags := 16409, nameIndex := 63, descriptorIndex := 6, attributes := #[] }, { accessFlags := 16409, nameIndex := 66, descriptorIndex := 6, attributes := #[] }, { accessFlags := 16409, nameIndex := 69, descriptorIndex := 6, attributes := #[] }, { accessFlags := 16409, nameIndex := 72, descriptorIndex := 6, attributes := #[] }, { accessFlags := 16409, nameIndex := 75, descriptorIndex := 6, attributes := #[] }, { accessFlags := 16409, nameIndex := 78, descriptorIndex := 6, attributes := #[] }, { accessFlags := 16409, nameIndex := 81, descriptorIndex := 6, attributes := #[] }, { accessFlags := 16409, nameIndex := 84, descriptorIndex := 6, attributes := #[] }, { accessFlags := 16409, nameIndex := 87, descriptorIndex := 6, attributes := #[] }, { accessFlags := 16409, nameIndex := 90, descriptorIndex := 6, attributes := #[] }, { accessFlags := 16409, nameIndex := 93, descriptorIndex := 6, attributes := #[] }, { accessFlags := 16409, nameIndex := 96, descriptorIndex := 6, attributes := #[] }, { accessFlags := 16409, nameIndex := 99, descriptorIndex := 6, attributes := #[] }, { accessFlags := 16409, nameIndex := 102, descriptorIndex := 6, attributes := #[] }, { accessFlags := 16409, nameIndex := 105, descriptorIndex := 6, attributes := #[] }, { accessFlags := 18, nameIndex := 127, descriptorIndex := 128, attributes := #[] }, { accessFlags := 18, nameIndex := 131, descriptorIndex := 132, attributes := #[] }, { accessFlags := 18, nameIndex := 135, descriptorIndex := 136, attributes := #[] }, { accessFlags := 26, nameIndex := 180, descriptorIndex := 109, attributes := #[] }, { accessFlags := 4122, nameIndex := 108, descriptorIndex := 109, attributes := #[] }])
  fields := #[{ name := "AE", type := (.object "com/example/shroud/shroud/dicom/Vr"), accessFlags := 16409, slot := 0, constantValue := 0 }, { name := "AS", type := (.object "com/example/shroud/shroud/dicom/Vr"), accessFlags := 16409, slot := 1, constantValue := 0 }, { name := "AT", type := (.object "com/example/shroud/shroud/dicom/Vr"), accessFlags := 16409, slot := 2, constantValue := 0 }, { name := "CS", type := (.object "com/example/shroud/shroud/dicom/Vr"), accessFlags := 16409, slot := 3, constantValue := 0 }, { name := "DA", type := (.object "com/example/shroud/shroud/dicom/Vr"), accessFlags := 16409, slot := 4, constantValue := 0 }, { name := "DS", type := (.object "com/example/shroud/shroud/dicom/Vr"), accessFlags := 16409, slot := 5, constantValue := 0 }, { name := "DT", type := (.object "com/example/shroud/shroud/dicom/Vr"), accessFlags := 16409, slot := 6, constantValue := 0 }, { name := "FD", type := (.object "com/example/shroud/shroud/dicom/Vr"), accessFlags := 16409, slot := 7, constantValue := 0 }, { name := "FL", type := (.object "com/example/shroud/shroud/dicom/Vr"), accessFlags := 16409, slot := 8, constantValue := 0 }, { name := "IS", type := (.object "com/example/shroud/shroud/dicom/Vr"), accessFlags := 16409, slot := 9, constantValue := 0 }, { name := "LO", type := (.object "com/example/shroud/shroud/dicom/Vr"), accessFlags := 16409, slot := 10, constantValue := 0 }, { name := "LT", type := (.object "com/example/shroud/shroud/dicom/Vr"), accessFlags := 16409, slot := 11, constantValue := 0 }, { name := "OB", type := (.object "com/example/shroud/shroud/dicom/Vr"), accessFlags := 16409, slot := 12, constantValue := 0 }, { name := "OD", type := (.object "com/example/shroud/shroud/dicom/Vr"), accessFlags := 16409, slot := 13, constantValue := 0 }, { name := "OF", type := (.object "com/example/shroud/shroud/dicom/Vr"), accessFlags := 16409, slot := 14, constantValue := 0 }, { name := "OL", type := (.object "com/example/shroud/shroud/dicom/Vr"), accessFlags := 16409, slot := 15, constantValue := 0 }, { name := "OV", type := (.object "com/example/shroud/shroud/dicom/Vr"), accessFlags := 16409, slot := 16, constantValue := 0 }, { name := "OW", type := (.object "com/example/shroud/shroud/dicom/Vr"), accessFlags := 16409, slot := 17, constantValue := 0 }, { name := "PN", type := (.object "com/example/shroud/shroud/dicom/Vr"), accessFlags := 16409, slot := 18, constantValue := 0 }, { name := "SH", type := (.object "com/example/shroud/shroud/dicom/Vr"), accessFlags := 16409, slot := 19, constantValue := 0 }, { name := "SL", type := (.object "com/example/shroud/shroud/dicom/Vr"), accessFlags := 16409, slot := 20, constantValue := 0 }, { name := "SQ", type := (.object "com/example/shroud/shroud/dicom/Vr"), accessFlags := 16409, slot := 21, constantValue := 0 }, { name := "SS", type := (.object "com/example/shroud/shroud/dicom/Vr"), accessFlags := 16409, slot := 22, constantValue := 0 }, { name := "ST", type := (.object "com/example/shroud/shroud/dicom/Vr"), accessFlags := 16409, slot := 23, constantValue := 0 }, { name := "SV", type := (.object "com/example/shroud/shroud/dicom/Vr"), accessFlags := 16409, slot := 24, constantValue := 0 }, { name := "TM", type := (.object "com/example/shroud/shroud/dicom/Vr"), accessFlags := 16409, slot := 25, constantValue := 0 }, { name := "UC", type := (.object "com/example/shroud/shroud/dicom/Vr"), accessFlags := 16409, slot := 26, constantValue := 0 }, { name := "UI", type := (.object "com/example/shroud/shroud/dicom/Vr"), accessFlags := 16409, slot := 27, constantValue := 0 }, { name := "UL", type := (.object "com/example/shroud/shroud/dicom/Vr"), accessFlags := 16409, slot := 28, constantValue := 0 }, { name := "UN", type := (.object "com/example/shroud/shroud/dicom/Vr"), accessFlags := 16409, slot := 29, constantValue := 0 }, { name := "UR", type := (.object "com/example/shroud/shroud/dicom/Vr"), accessFlags := 16409, slot := 30, constantValue := 0 }, { name := "US", type := (.object "com/example/shroud/shroud/dicom/Vr"), accessFlags := 16409, slot := 31, constantValue := 0 }, { name := "UT", type := (.object "com/example/shroud/shroud/dicom/Vr"), accessFlags := 16409, slot := 32, constantValue := 0 }, { name := "UV", type := (.object "com/example/shroud/shroud/dicom/Vr"), accessFlags := 16409, slot := 33, constantValue := 0 }, { name := "length", type := (.object "com/example/shroud/shroud/dicom/Vr$Length"), accessFlags := 18, slot := 3, constantValue := 0 }, { name := "padding", type := (.object "com/example/shroud/shroud/dicom/Vr$Padding"), accessFlags := 18, slot := 4, constantValue := 0 }, { name := "wordSize", type := .int, accessFlags := 18, slot := 5, constantValue := 0 }, { name := "BY_CODE", type := (.array (.object "com/example/shroud/shroud/dicom/Vr")), accessFlags := 26, slot := 34, constantValue := 0 }, { name := "$VALUES", type := (.array (.object "com/example/shroud/shroud/dicom/Vr")), accessFlags := 4122, slot := 35, constantValue := 0 }]
  methods := #[k6m0, k6m1]
  instanceTypes := #[(.object "java/lang/String"), .int, .int, (.object "com/example/shroud/shroud/dicom/Vr$Length"), (.object "com/example/shroud/shroud/dicom/Vr$Padding"), .int]
  staticTypes := #[(.object "com/example/shroud/shroud/dicom/Vr"), (.object "com/example/shroud/shroud/dicom/Vr"), (.object "com/example/shroud/shroud/dicom/Vr"), (.object "com/example/shroud/shroud/dicom/Vr"), (.object "com/example/shroud/shroud/dicom/Vr"), (.object "com/example/shroud/shroud/dicom/Vr"), (.object "com/example/shroud/shroud/dicom/Vr"), (.object "com/example/shroud/shroud/dicom/Vr"), (.object "com/example/shroud/shroud/dicom/Vr"), (.object "com/example/shroud/shroud/dicom/Vr"), (.object "com/example/shroud/shroud/dicom/Vr"), (.object "com/example/shroud/shroud/dicom/Vr"), (.object "com/example/shroud/shroud/dicom/Vr"), (.object "com/example/shroud/shroud/dicom/Vr"), (.object "com/example/shroud/shroud/dicom/Vr"), (.object "com/example/shroud/shroud/dicom/Vr"), (.object "com/example/shroud/shroud/dicom/Vr"), (.object "com/example/shroud/shroud/dicom/Vr"), (.object "com/example/shroud/shroud/dicom/Vr"), (.object "com/example/shroud/shroud/dicom/Vr"), (.object "com/example/shroud/shroud/dicom/Vr"), (.object "com/example/shroud/shroud/dicom/Vr"), (.object "com/example/shroud/shroud/dicom/Vr"), (.object "com/example/shroud/shroud/dicom/Vr"), (.object "com/example/shroud/shroud/dicom/Vr"), (.object "com/example/shroud/shroud/dicom/Vr"), (.object "com/example/shroud/shroud/dicom/Vr"), (.object "com/example/shroud/shroud/dicom/Vr"), (.object "com/example/shroud/shroud/dicom/Vr"), (.object "com/example/shroud/shroud/dicom/Vr"), (.object "com/example/shroud/shroud/dicom/Vr"), (.object "com/example/shroud/shroud/dicom/Vr"), (.object "com/example/shroud/shroud/dicom/Vr"), (.object "com/example/shroud/shroud/dicom/Vr"), (.array (.object "com/example/shroud/shroud/dicom/Vr")), (.array (.object "com/example/shroud/shroud/dicom/Vr"))]
  resolved := Array.replicate 283 none
  statics := some 0 }

def pool7 : Array CpInfo := pool [(1, u "java/lang/Cloneable"), (0, .class_ 1), (0, u "java/lang/Object"), (0, .class_ 3)] 3

/-- java/lang/Cloneable -/
def k7 : Class := { plain "java/lang/Cloneable" (some 0) with
  accessFlags := 1537
  interfaces := #[]
  cf := some (fileOf pool7 2 #[] #[] 1537 4 #[] #[])
  fields := #[]
  methods := #[]
  instanceTypes := #[]
  staticTypes := #[]
  resolved := Array.replicate 8 none
  statics := none }

/-- the primitive byte -/
def k8 : Class := { plain "byte" none with kind := .primitive 'B', accessFlags := 0x411 }
/-- [B -/
def k9 : Class := { plain "[B" (some 0) with kind := .array 8 .byte, interfaces := #[7, 4], accessFlags := 1041 }

/-- the primitive int -/
def k10 : Class := { plain "int" none with kind := .primitive 'I', accessFlags := 0x411 }
/-- [I -/
def k11 : Class := { plain "[I" (some 0) with kind := .array 10 .int, interfaces := #[7, 4], accessFlags := 1041 }

def heap : Heap := #[{ cls := 6, slots := #[.ref 1, .null, .null, .null, .null, .null, .null, .ref 7, .ref 6, .null, .null, .null, .ref 2, .null, .null, .null, .ref 8, .ref 4, .null, .null, .null, .null, .null, .null, .null, .null, .null, .null, .ref 5, .null, .null, .ref 3, .null, .null, .null, .null], vm := .statics 6 },
  { cls := 6, slots := #[.null, .int 0, .int 0, .null, .null, .int 1], vm := .none },
  { cls := 6, slots := #[.null, .int 1, .int 0, .null, .null, .int 1], vm := .none },
  { cls := 6, slots := #[.null, .int 2, .int 0, .null, .null, .int 2], vm := .none },
  { cls := 6, slots := #[.null, .int 3, .int 0, .null, .null, .int 2], vm := .none },
  { cls := 6, slots := #[.null, .int 4, .int 0, .null, .null, .int 4], vm := .none },
  { cls := 6, slots := #[.null, .int 5, .int 0, .null, .null, .int 4], vm := .none },
  { cls := 6, slots := #[.null, .int 6, .int 0, .null, .null, .int 8], vm := .none },
  { cls := 6, slots := #[.null, .int 7, .int 0, .null, .null, .int 8], vm := .none }]
def classes : Array Class := #[k0, k1, k2, k3, k4, k5, k6, k7, k8, k9, k10, k11]
def interned : List (Array UInt16 × Addr) := []
def slotsUsed : Nat := 84
def theMethod : MethodId := ⟨1, 3⟩
def args0 : Array Value := #[.long 5, .long 7, .int 2, .int 1, .int 9]
def aboutOver (below : List Frame) : State where
  vm := { classes := classes, interned := interned.toArray }
  heap := heap
  slotsUsed := slotsUsed
  threads := #[{ frames := .invoking theMethod args0 :: below }]
def below0 : List Frame := [.native { method := ⟨0, 0⟩, args := #[] }]
def about1 : State := aboutOver below0
def p0 : Program := .bare "" "" ""
def e0 : Env := launch0.env 0 0 0
theorem w_frames : about1.frames = Frame.invoking theMethod args0 :: below0 := rfl
set_option maxRecDepth 65536 in
theorem w_args : argsFit about1.vm theMethod args0 = true := by decide +kernel
set_option maxRecDepth 65536 in
theorem w_heap : heapFits about1 = true := by decide +kernel
set_option maxRecDepth 65536 in
theorem w_runnable : about1.curStatus? = some .runnable := by decide +kernel
set_option maxRecDepth 65536 in
theorem w_alone : about1.alone = true := by decide +kernel
set_option maxRecDepth 65536 in
theorem w_named : about1.methodNamed? x = some theMethod := by decide +kernel
set_option maxRecDepth 65536 in
theorem w_hears : about1.hears theMethod below0 = true := by decide +kernel
set_option maxRecDepth 65536 in
theorem w_ripe : about1.ripe theMethod args0 below0 = true := by decide +kernel
theorem w_running : about1.status = .running := rfl
set_option maxRecDepth 65536 in
theorem w_room : about1.hasRoom e0.platform room_1 = true :=
  launch0.hasRoom_least _ room_1 (by decide +kernel) (by decide +kernel) (by decide +kernel) (by decide +kernel) (by decide +kernel) (by decide +kernel)
theorem allAtoms_all (ts : List Jvm.Cond) (a : Array Jvm.Value) (st : Jvm.State) : (allAtoms ts).before a st = ts.all (fun c => c.before a st) := by
  induction ts with
  | nil => rfl
  | cons c t ih =>
    show (Jvm.Cond.and c (allAtoms t)).before a st = _
    rw [Jvm.Cond.before_and, ih, List.all_cons]
def words1 : List Jvm.Cond := Jvm.Cond.code x code maxLocals ret :: tables_1
/-- a 'code' word, met by the world's own term for the bytes: nothing is compared byte by byte -/
theorem code_word {y : MethodName} {bytes : ByteArray} {mx : Nat} {rt : Option FieldType} {a : Array Value} {s : State} {m : MethodId} {meth : Method} {c : Code} (h1 : s.methodNamed? y = some m) (h2 : s.vm.method? m = some meth) (h3 : meth.code = some c) (h4 : c.code = bytes)
    (h5 : (c.maxLocals == mx && c.exceptionTable.isEmpty && decide (c.maxStack ≤ mostOperands) && decide (meth.sig.returnType = rt) && !meth.locks && decide (parseMethodDescriptor y.desc = some meth.sig)) = true) : (Jvm.Cond.code y bytes mx rt).before a s = true := by
  simp only [Bool.and_eq_true, beq_iff_eq, Bool.not_eq_true', decide_eq_true_eq] at h5
  obtain ⟨⟨⟨⟨⟨g1, g2⟩, g3⟩, g4⟩, g5⟩, g6⟩ := h5
  simp [Cond.before, Cond.holds, Cond.value, h1, h2, h3, h4, g1, g2, g3, g4, g5, g6]
def isCode : Jvm.Cond → Bool
  | .code _ _ _ _ => true
  | _ => false
theorem all_split {L : List Jvm.Cond} {P : Jvm.Cond → Bool} (h1 : L.all (fun c => isCode c || P c) = true) (h2 : ∀ c ∈ L.filter isCode, P c = true) : L.all P = true := by
  refine List.all_eq_true.mpr fun c hc => ?_
  have h := List.all_eq_true.mp h1 c hc
  rcases Bool.eq_false_or_eq_true (isCode c) with hi | hi
  · exact h2 c (List.mem_filter.mpr ⟨hc, hi⟩)
  · simpa [hi] using h
set_option maxRecDepth 65536 in
theorem w_c0 : (Jvm.Cond.code x code maxLocals ret).before args0 about1 = true := code_word (m := ⟨1, 3⟩) (meth := k1m3) (c := k1c3) (by decide +kernel) rfl rfl rfl (by decide +kernel)
set_option maxRecDepth 65536 in
theorem w_c1 : (Jvm.Cond.code ({ cls := "com/example/shroud/shroud/dicom/VrSwapByteOrderPinLaw", name := "byteOf", desc := "(JJI)B" } : Jvm.MethodName) method_2_code (5 : Nat) (Option.some Jvm.ClassFile.FieldType.byte)).before args0 about1 = true := code_word (m := ⟨1, 1⟩) (meth := k1m1) (c := k1c1) (by decide +kernel) rfl rfl rfl (by decide +kernel)
set_option maxRecDepth 65536 in
theorem w_c2 : (Jvm.Cond.code ({ cls := "com/example/shroud/shroud/dicom/Vr", name := "swapByteOrder", desc := "([BII)V" } : Jvm.MethodName) prog_65_method_9_code (8 : Nat) (Option.none : Option Jvm.ClassFile.FieldType)).before args0 about1 = true := code_word (m := ⟨6, 1⟩) (meth := k6m1) (c := k6c1) (by decide +kernel) rfl rfl rfl (by decide +kernel)
set_option maxRecDepth 65536 in
theorem w_c3 : (Jvm.Cond.code ({ cls := "com/example/shroud/shroud/dicom/Vr", name := "hasByteOrder", desc := "()Z" } : Jvm.MethodName) prog_65_method_7_code (1 : Nat) (Option.some Jvm.ClassFile.FieldType.boolean)).before args0 about1 = true := code_word (m := ⟨6, 0⟩) (meth := k6m0) (c := k6c0) (by decide +kernel) rfl rfl rfl (by decide +kernel)
set_option maxRecDepth 65536 in
theorem w_c4 : (Jvm.Cond.code ({ cls := "com/example/shroud/shroud/dicom/VrSwapByteOrderPinLaw", name := "expected", desc := "([BIIII)B" } : Jvm.MethodName) method_3_code (6 : Nat) (Option.some Jvm.ClassFile.FieldType.byte)).before args0 about1 = true := code_word (m := ⟨1, 2⟩) (meth := k1m2) (c := k1c2) (by decide +kernel) rfl rfl rfl (by decide +kernel)
def codes1 : List Jvm.Cond := [Jvm.Cond.code x code maxLocals ret, Jvm.Cond.code ({ cls := "com/example/shroud/shroud/dicom/VrSwapByteOrderPinLaw", name := "byteOf", desc := "(JJI)B" } : Jvm.MethodName) method_2_code (5 : Nat) (Option.some Jvm.ClassFile.FieldType.byte), Jvm.Cond.code ({ cls := "com/example/shroud/shroud/dicom/Vr", name := "swapByteOrder", desc := "([BII)V" } : Jvm.MethodName) prog_65_method_9_code (8 : Nat) (Option.none : Option Jvm.ClassFile.FieldType), Jvm.Cond.code ({ cls := "com/example/shroud/shroud/dicom/Vr", name := "hasByteOrder", desc := "()Z" } : Jvm.MethodName) prog_65_method_7_code (1 : Nat) (Option.some Jvm.ClassFile.FieldType.boolean), Jvm.Cond.code ({ cls := "com/example/shroud/shroud/dicom/VrSwapByteOrderPinLaw", name := "expected", desc := "([BIIII)B" } : Jvm.MethodName) method_3_code (6 : Nat) (Option.some Jvm.ClassFile.FieldType.byte)]
set_option maxRecDepth 65536 in
theorem codes_eq : words1.filter isCode = codes1 := rfl
theorem w_codes : ∀ c ∈ words1.filter isCode, c.before args0 about1 = true := by
  rw [codes_eq]
  intro c hc
  simp only [codes1, List.mem_cons, List.not_mem_nil, or_false] at hc
  rcases hc with rfl | rfl | rfl | rfl | rfl
  · exact w_c0
  · exact w_c1
  · exact w_c2
  · exact w_c3
  · exact w_c4
set_option maxRecDepth 65536 in
theorem w_t1 : (words1.take 24).all (fun c => isCode c || c.before args0 about1) = true := by decide +kernel
set_option maxRecDepth 65536 in
theorem w_t2 : (words1.drop 24).all (fun c => isCode c || c.before args0 about1) = true := by decide +kernel
theorem w_tables : (allAtoms (Jvm.Cond.code x code maxLocals ret :: tables_1)).before args0 about1 = true := by
  rw [allAtoms_all]
  show words1.all (fun c => c.before args0 about1) = true
  refine all_split ?_ w_codes
  rw [← List.take_append_drop 24 words1, List.all_append, w_t1, w_t2]
  rfl
set_option maxRecDepth 65536 in
theorem w_case : (Jvm.Cond.and given_1 narrow_1).before args0 about1 = true := by decide +kernel
theorem w_applies : (headSpec (Jvm.Cond.code x code maxLocals ret :: tables_1) room_1).applies x e0.platform about1 = true :=
  (Spec.applies_iff w_frames).mpr ⟨w_running, w_runnable, w_alone, w_named, w_hears, w_ripe, w_room, w_tables⟩
theorem atStart : AtStart classFile x code maxLocals ret World_1 tables_1 room_1 Calls_1 rest_1 Pre_1 launch0 p0 e0 about1 theMethod args0 below0 :=
  ⟨lists_1, trivial, launch0.admits_env _ _ _, launch0.least_env, fairChoices_fair.cas, fairChoices_fair.clock, w_frames, w_args, w_heap, w_applies, trivial, trivial, w_case⟩
end start1
theorem witness_1 : WitnessClaimed_1 := ⟨start1.p0, start1.e0, start1.about1, start1.theMethod, start1.args0, start1.below0, start1.atStart⟩
end Jvm.Pilot.@@N@@
