import JvmDerived
import JvmDerived.Pilot.@@N@@Statement
import JvmDerived.Pilot.@@N@@Code
set_option linter.unusedVariables false
set_option linter.unusedSimpArgs false
namespace Jvm.Own
open Sem ClassFile Op Lib Jvm.Stand Jvm.Free Jvm.LawKit Jvm.RoadKit
/-! THE OWN LAYER, WIDE: as the narrow one, for walks that load String constants: the base's tables may have moved (Since), what is booked of EL's constants says its text (CHr), and 'os' lists the cells made meanwhile that aren't booked: those may be written. -/
abbrev Wk := Heap → List Addr → Nat → Nat → Nat → Array Slot → List Value → Prop
def Ows (Z : State) (EL : List (String × Nat)) (vm : Vm) (h : Heap) (os : List Addr) : Prop := ∀ x ∈ os, Z.heap.size ≤ x ∧ Safe Z EL vm h x ∧ x < h.size
def Ends (Z : State) (EL : List (String × Nat)) (s : State) (R : Room) (Q : Option Value → Heap → Prop) (ou : Option Value → List Addr) (o : Outcome) (u : State) : Prop :=
  ∃ v L, o = .returned v ∧ (Q v u.heap ∧ Ext Z.heap u.heap ∧ Fr Z.heap.size L) ∧ Ows Z EL u.vm u.heap (ou v) ∧ CHr Z EL s.vm s.heap u.vm u.heap ∧ ReturnedEndW s o u L R.cells R.slots
def Run (p : Program) (l : Launch) (e : Env) (R : Room) (s : State) (m : MethodId) (args : Array Value) (below : List Frame) (meth : Method) (c : Code) (Z : State) (EL : List (String × Nat)) (Q : Option Value → Heap → Prop) (ou : Option Value → List Addr) : Wk := fun h os k n pc Ls st =>
  Ext Z.heap h → ∀ vm0 k0 T locs, s.Since vm0 k0 → k0 ≤ h.size → CHr Z EL s.vm s.heap vm0 h → Ows Z EL vm0 h os → Stand p l e R (s.setVm vm0) m args below meth c T locs k n → T.heap = h → Fr Z.heap.size locs →
    ∃ u o, Steps p.tables e below (T.setTop (mkF m pc Ls st)) u ∧ u.status = .running ∧ Ended u below o ∧ Ends Z EL s R Q ou o u
def Ok (p : Program) (s : State) (m : MethodId) (meth : Method) (c : Code) (Z : State) (a0 : Array Value) (tb : List Jvm.Cond) (EL : List (String × Nat)) (own : String) (code : ByteArray) (ml : Nat) (rt : Option FieldType) (nm : String) : Prop :=
  p.tables.exec = Jvm.exec ∧ c.code = code ∧ c.maxLocals = ml ∧ s.vm.findClass own = some m.cls ∧ meth.sig.returnType = rt ∧ meth.locks = false ∧ Z.Warmed39 s.vm ∧ meth.name = nm ∧ (∀ d ∈ tb, d.before a0 Z = true) ∧ EW Z a0 EL
def Walk (W : Wk) (l : Launch) (Z : State) (a0 : Array Value) (tb : List Jvm.Cond) (EL : List (String × Nat)) (own : String) (code : ByteArray) (ml : Nat) (rt : Option FieldType) (nm : String) (R : Room) (Q : Option Value → Heap → Prop) (ou : Option Value → List Addr) : Prop :=
  ∃ p e s m args below meth c, W = Run p l e R s m args below meth c Z EL Q ou ∧ Ok p s m meth c Z a0 tb EL own code ml rt nm
def Con (l : Launch) (Z : State) (EL : List (String × Nat)) (y : MethodName) (code : ByteArray) (ml : Nat) (rt : Option FieldType) (rm : Room) (as : Array Value) (h : Heap) (os : List Addr) (Q : Option Value → Heap → Prop) (ou : Option Value → List Addr) : Prop :=
  Ext Z.heap h → ∀ ws, MetFree l y (head1 (Jvm.Cond.code y code ml rt :: ws) rm) (fun a U => a = as ∧ Z.Warmed39 U.vm ∧ U.heap = h ∧ CHv Z EL U.vm h ∧ Ows Z EL U.vm h os) (fun _ _ _ _ _ => True) (fun _ U o U' => Ends Z EL U rm Q ou o U')
def Same (v : Option Value) (h : Heap) : Option Value → Heap → Prop := fun v' h' => v' = v ∧ h' = h
theorem same_intro {v : Option Value} {h : Heap} {P : Option Value → Heap → Prop} (K : P v h) : ∀ v' h', Same v h v' h' → P v' h' := by
  rintro _ _ ⟨rfl, rfl⟩; exact K
theorem Con.of {l : Launch} {Z : State} {EL : List (String × Nat)} {a0 : Array Value} {tb : List Jvm.Cond} {y : MethodName} {code : ByteArray} {ml : Nat} {rt : Option FieldType} {rm : Room} {as : Array Value} {h : Heap} {os : List Addr} {Q : Option Value → Heap → Prop} {ou : Option Value → List Addr} {Ls : Array Slot}
    (hw : ∀ d ∈ tb, d.before a0 Z = true) (hEL : EW Z a0 EL) (hpn : plainFor y = true) (hef : ∀ m, entryFrame m as ml = mkF m 0 Ls []) (H : ∀ W : Wk, Walk W l Z a0 tb EL y.cls code ml rt y.name rm Q ou → W h os 0 0 0 Ls []) : Con l Z EL y code ml rt rm as h os Q ou := by
  intro hE ws
  refine MetFree.of_bodySF hpn hisR ?_
  intro p e s m args below meth c s₁ Bd hml0 hP hK
  obtain ⟨rfl, hZ, hh, hC, hO⟩ := hP
  have X0 : Stand p l e rm s m args below meth c s₁ [] 0 0 := Stand.of_body Bd
  have e0 : s₁.heap = h := by rw [← hh, Bd.state]; rfl
  obtain ⟨u, o, h1, h2, h3, h4⟩ := H _ ⟨p, e, s, m, args, below, meth, c, rfl, Bd.exec, Bd.bytes, hml0, findClass_of_methodNamed Bd.named, Bd.returns, BodyLoose.notSynchronized Bd, hZ, (name_of_methodNamed Bd.named Bd.method).1, hw, hEL⟩ hE s.vm 0 s₁ [] ((State.WarmedH.refl s).since 0) (Nat.zero_le _) (by rw [hh]; exact CHr.refl hC) hO X0 e0 (Fr.nil _)
  exact ⟨u, o, castTop (hef m) h1, h2, h3, h4⟩
section Rules
variable {W : Wk} {l : Launch} {Z : State} {EL : List (String × Nat)} {a0 : Array Value} {tb : List Jvm.Cond} {own : String} {code : ByteArray} {ml : Nat} {rt : Option FieldType} {nm : String} {R : Room} {Q : Option Value → Heap → Prop} {ou : Option Value → List Addr} {h : Heap} {os : List Addr} {k n pc : Nat} {Ls : Array Slot} {st : List Value}
theorem Ows.sub {vm : Vm} {os' : List Addr} (O : Ows Z EL vm h os) (q : ∀ x ∈ os', x ∈ os) : Ows Z EL vm h os' := fun x hx => O x (q x hx)
theorem Ows.wr {vm : Vm} {h' : Heap} {a : Addr} {sl : Nat} {v : Value} (O : Ows Z EL vm h os) (Wr' : Wr h h' a sl v) (S : Safe Z EL vm h a) (H : CHv Z EL vm h) : Ows Z EL vm h' os := fun x hx => ⟨(O x hx).1, Safe.wr Wr' S H (O x hx).2.1, by rw [Wr'.size]; exact (O x hx).2.2⟩
theorem Ows.on {vm vm1 : Vm} {h' : Heap} (O : Ows Z EL vm h os) (C : CHr Z EL vm h vm1 h') : Ows Z EL vm1 h' os := fun x hx => ⟨(O x hx).1, C.safe (O x hx).2.2 (O x hx).2.1, Nat.lt_of_lt_of_le (O x hx).2.2 C.2.1⟩
theorem Ows.app {vm : Vm} {os' : List Addr} (O' : Ows Z EL vm h os') (O : Ows Z EL vm h os) : Ows Z EL vm h (os' ++ os) := fun x hx => (List.mem_append.mp hx).elim (O' x) (O x)
theorem Ows.made {vm : Vm} {h' : Heap} (O : Ows Z EL vm h os) (E : Ext h h') (H : CHv Z EL vm h) (hz : Z.heap.size ≤ h.size) (hl : h.size < h'.size) : Ows Z EL vm h' (h.size :: os) := fun x hx => by
  rcases List.mem_cons.mp hx with rfl | hx
  · exact ⟨hz, Safe.ext E H (Safe.new (Nat.le_refl _)), hl⟩
  · exact (O.on (CHr.ext E H)) x hx
/-- a call's payment: the callee's own contract -/
theorem paid {p : Program} {e : Env} {below : List Frame} {s : State} {args : Array Value} {vm0 : Vm} {y : MethodName} {yc : ByteArray} {ym : Nat} {yr : Option FieldType} {rm : Room} {len wd : Nat} {as : Array Value} {os' : List Addr} {yQ : Option Value → Heap → Prop} {you : Option Value → List Addr}
    (con : Con l Z EL y yc ym yr rm as h os' yQ you) (hE : Ext Z.heap h) (hZ : Z.Warmed39 vm0) (wc : (Jvm.Cond.code y yc ym yr).before a0 Z = true) (wz : (Jvm.Cond.initialized y.cls).before a0 Z = true) (hf : rm.frames + 1 ≤ R.frames) (hl : wd + (ym + 11) + rm.locals ≤ R.locals) (hEL : EW Z a0 EL) (H : CHv Z EL vm0 h) (O : Ows Z EL vm0 h os') :
    BackS l R p e below (s.setVm vm0) args y len wd (fun A a => a = as ∧ A.U.heap = h ∧ A.cells + rm.cells ≤ R.cells ∧ A.slots + rm.slots ≤ R.slots)
      (fun A _ v B => ∃ L, (yQ v B.U.heap ∧ Ext Z.heap B.U.heap ∧ Fr Z.heap.size L) ∧ B.locs = A.locs ++ L ∧ B.cells = A.cells + rm.cells ∧ B.slots = A.slots + rm.slots ∧ CHr Z EL vm0 h B.U.vm B.U.heap ∧ Ows Z EL B.U.vm B.U.heap (you v)) := by
  refine BackS.of_freeW (bytes := yc) (maxL := ym) (ret := yr) (E := fun _ u o t L k n => k = rm.cells ∧ n = rm.slots ∧ CHr Z EL u.vm u.heap t.vm t.heap ∧ ∃ v, o = .returned v ∧ (yQ v t.heap ∧ Ext Z.heap t.heap ∧ Fr Z.heap.size L) ∧ Ows Z EL t.vm t.heap (you v)) (con hE []) hf hl ?_ ?_ (fun _ _ _ _ _ _ _ _ _ => trivial) ?_ ?_
  · intro m meth c A a Y hp
    have hU : Z.Warmed39 A.U.vm := wtrans (s := s.setVm vm0) hZ Y.warmed
    exact ⟨by show (Jvm.Cond.and _ .tt).before a A.U = true; rw [Cond.before_and, mv hU wc]; rfl, mv hU wc, mv hU wz, hp.2.2.1, hp.2.2.2⟩
  · intro m meth c A a g mk Y hp
    have B := CHv.at Y hZ hEL H
    exact ⟨hp.1, wtrans (s := s.setVm vm0) hZ Y.warmed, hp.2.1, B.1, O.on B⟩
  · rintro a u o t ⟨v, L, q1, q2, q0, q3, q4⟩
    exact ⟨L, _, _, q4, rfl, rfl, q3, v, q1, q2, q0⟩
  · rintro m meth c A a g mk v t L k n Y hp - - ⟨e1, e2, e3, v', e4, e5, e6⟩
    cases e4; subst e1 e2
    have e3' : CHr Z EL A.U.vm h t.vm t.heap := by rw [← hp.2.1]; exact e3
    exact ⟨L, e5, rfl, rfl, rfl, (CHv.at Y hZ hEL H).trans e3', e6⟩
theorem Walk.word (C : Walk W l Z a0 tb EL own code ml rt nm R Q ou) {d : Jvm.Cond} (q : d ∈ tb) : d.before a0 Z = true := by
  obtain ⟨p, e, s, m, args, below, meth, c, rfl, ok⟩ := C
  exact ok.2.2.2.2.2.2.2.2.1 d q
theorem Walk.more (C : Walk W l Z a0 tb EL own code ml rt nm R Q ou) {k' n' : Nat} (hk : k ≤ k') (hn : n ≤ n') (K : W h os k' n' pc Ls st) : W h os k n pc Ls st := by
  obtain ⟨p, e, s, m, args, below, meth, c, rfl, ok⟩ := C
  exact fun hE vm0 k0 T locs hS hk0 H hos X eT N => K hE vm0 k0 T locs hS hk0 H hos (X.more hk hn) eT N
theorem Walk.less (C : Walk W l Z a0 tb EL own code ml rt nm R Q ou) (os' : List Addr) (q : ∀ x ∈ os', x ∈ os) (K : W h os' k n pc Ls st) : W h os k n pc Ls st := by
  obtain ⟨p, e, s, m, args, below, meth, c, rfl, ok⟩ := C
  exact fun hE vm0 k0 T locs hS hk0 H hos X eT N => K hE vm0 k0 T locs hS hk0 H (hos.sub q) X eT N
theorem Walk.kept (C : Walk W l Z a0 tb EL own code ml rt nm R Q ou) (K : Ext Z.heap h → W h os k n pc Ls st) : W h os k n pc Ls st := by
  obtain ⟨p, e, s, m, args, below, meth, c, rfl, ok⟩ := C
  exact fun hE => K hE hE
theorem Walk.plain (C : Walk W l Z a0 tb EL own code ml rt nm R Q ou) {pc' : Nat} {Ls' : Array Slot} {st' : List Value}
    (S : ∀ {tb' : Tables} [Ours tb'] {e : Env} {below : List Frame} {T target : State} {m : MethodId} {c : Code}, At T m c below → tb'.exec = Jvm.exec → c.code = code → Steps tb' e below (T.setTop (mkF m pc' Ls' st')) target → Steps tb' e below (T.setTop (mkF m pc Ls st)) target)
    (K : W h os k n pc' Ls' st') : W h os k n pc Ls st := by
  obtain ⟨p, e, s, m, args, below, meth, c, rfl, ok⟩ := C
  intro hE vm0 k0 T locs hS hk0 H hos X eT N
  obtain ⟨u, o, h1, h2⟩ := K hE vm0 k0 T locs hS hk0 H hos X eT N
  exact ⟨u, o, S X.here ok.1 ok.2.1 h1, h2⟩
theorem Walk.iloadN (C : Walk W l Z a0 tb EL own code ml rt nm R Q ou) (pc' : Nat) {i : Fin 4} {v : Int32} (hd : decode code pc = .ok (.iload_n i, 1)) (hp : pc' = pc + 1) (hl : Ls[i.val]? = some (.val (.int v))) (K : W h os k n pc' Ls (.int v :: st)) : W h os k n pc Ls st := by
  subst hp; exact C.plain (fun hA hx hb' hr => XS.iloadN hA hx rfl (hb hb' hd) hl hr) K
theorem Walk.iload (C : Walk W l Z a0 tb EL own code ml rt nm R Q ou) (pc' : Nat) {i : Nat} {v : Int32} (hd : decode code pc = .ok (.iload i, 2)) (hp : pc' = pc + 2) (hl : Ls[i]? = some (.val (.int v))) (K : W h os k n pc' Ls (.int v :: st)) : W h os k n pc Ls st := by
  subst hp; exact C.plain (fun hA hx hb' hr => XS.iload hA hx rfl (hb hb' hd) hl hr) K
theorem Walk.lloadN (C : Walk W l Z a0 tb EL own code ml rt nm R Q ou) (pc' : Nat) {i : Fin 4} {v : Int64} (hd : decode code pc = .ok (.lload_n i, 1)) (hp : pc' = pc + 1) (hl : Ls[i.val]? = some (.val (.long v))) (K : W h os k n pc' Ls (.long v :: st)) : W h os k n pc Ls st := by
  subst hp; exact C.plain (fun hA hx hb' hr => XT.lloadN hA hx rfl (hb hb' hd) hl hr) K
theorem Walk.lload (C : Walk W l Z a0 tb EL own code ml rt nm R Q ou) (pc' : Nat) {i : Nat} {v : Int64} (hd : decode code pc = .ok (.lload i, 2)) (hp : pc' = pc + 2) (hl : Ls[i]? = some (.val (.long v))) (K : W h os k n pc' Ls (.long v :: st)) : W h os k n pc Ls st := by
  subst hp; exact C.plain (fun hA hx hb' hr => XT.lload hA hx rfl (hb hb' hd) hl hr) K
theorem Walk.aloadN (C : Walk W l Z a0 tb EL own code ml rt nm R Q ou) (pc' : Nat) {i : Fin 4} {v : Value} (hd : decode code pc = .ok (.aload_n i, 1)) (hp : pc' = pc + 1) (hl : Ls[i.val]? = some (.val v)) (hv : v.isRef = true) (K : W h os k n pc' Ls (v :: st)) : W h os k n pc Ls st := by
  subst hp; exact C.plain (fun hA hx hb' hr => XS.aloadN hA hx rfl (hb hb' hd) hl hv hr) K
theorem Walk.aload (C : Walk W l Z a0 tb EL own code ml rt nm R Q ou) (pc' : Nat) {i : Nat} {v : Value} (hd : decode code pc = .ok (.aload i, 2)) (hp : pc' = pc + 2) (hl : Ls[i]? = some (.val v)) (hv : v.isRef = true) (K : W h os k n pc' Ls (v :: st)) : W h os k n pc Ls st := by
  subst hp; exact C.plain (fun hA hx hb' hr => XS.aload hA hx rfl (hb hb' hd) hl hv hr) K
theorem Walk.istoreN (C : Walk W l Z a0 tb EL own code ml rt nm R Q ou) (pc' : Nat) (Ls' : Array Slot) {i : Fin 4} {x : Int32} (hd : decode code pc = .ok (.istore_n i, 1)) (hp : pc' = pc + 1) (hl : storeLocals Ls i.val (.int x) = some Ls') (K : W h os k n pc' Ls' st) : W h os k n pc Ls (.int x :: st) := by
  subst hp; exact C.plain (fun hA hx hb' hr => XS.istoreN hA hx rfl (hb hb' hd) rfl hl hr) K
theorem Walk.istore (C : Walk W l Z a0 tb EL own code ml rt nm R Q ou) (pc' : Nat) (Ls' : Array Slot) {i : Nat} {x : Int32} (hd : decode code pc = .ok (.istore i, 2)) (hp : pc' = pc + 2) (hl : storeLocals Ls i (.int x) = some Ls') (K : W h os k n pc' Ls' st) : W h os k n pc Ls (.int x :: st) := by
  subst hp; exact C.plain (fun hA hx hb' hr => XS.istore hA hx rfl (hb hb' hd) rfl hl hr) K
theorem Walk.lstoreN (C : Walk W l Z a0 tb EL own code ml rt nm R Q ou) (pc' : Nat) (Ls' : Array Slot) {i : Fin 4} {x : Int64} (hd : decode code pc = .ok (.lstore_n i, 1)) (hp : pc' = pc + 1) (hl : storeLocals Ls i.val (.long x) = some Ls') (K : W h os k n pc' Ls' st) : W h os k n pc Ls (.long x :: st) := by
  subst hp; exact C.plain (fun hA hx hb' hr => XT.lstoreN hA hx rfl (hb hb' hd) rfl hl hr) K
theorem Walk.lstore (C : Walk W l Z a0 tb EL own code ml rt nm R Q ou) (pc' : Nat) (Ls' : Array Slot) {i : Nat} {x : Int64} (hd : decode code pc = .ok (.lstore i, 2)) (hp : pc' = pc + 2) (hl : storeLocals Ls i (.long x) = some Ls') (K : W h os k n pc' Ls' st) : W h os k n pc Ls (.long x :: st) := by
  subst hp; exact C.plain (fun hA hx hb' hr => XT.lstore hA hx rfl (hb hb' hd) rfl hl hr) K
theorem Walk.astoreN (C : Walk W l Z a0 tb EL own code ml rt nm R Q ou) (pc' : Nat) (Ls' : Array Slot) {i : Fin 4} {x : Value} (hd : decode code pc = .ok (.astore_n i, 1)) (hp : pc' = pc + 1) (hv : x.isRef = true) (hl : storeLocals Ls i.val x = some Ls') (K : W h os k n pc' Ls' st) : W h os k n pc Ls (x :: st) := by
  subst hp; exact C.plain (fun hA hx hb' hr => XS.astoreN hA hx rfl (hb hb' hd) rfl hv hl hr) K
theorem Walk.astore (C : Walk W l Z a0 tb EL own code ml rt nm R Q ou) (pc' : Nat) (Ls' : Array Slot) {i : Nat} {x : Value} (hd : decode code pc = .ok (.astore i, 2)) (hp : pc' = pc + 2) (hv : x.isRef = true) (hl : storeLocals Ls i x = some Ls') (K : W h os k n pc' Ls' st) : W h os k n pc Ls (x :: st) := by
  subst hp; exact C.plain (fun hA hx hb' hr => XS.astore hA hx rfl (hb hb' hd) rfl hv hl hr) K
theorem Walk.iconst (C : Walk W l Z a0 tb EL own code ml rt nm R Q ou) (pc' : Nat) (v : Int32) {i : Int} (hd : decode code pc = .ok (.iconst i, 1)) (hp : pc' = pc + 1) (hv : Int32.ofInt i = v) (K : W h os k n pc' Ls (.int v :: st)) : W h os k n pc Ls st := by
  subst hp hv; exact C.plain (fun hA hx hb' hr => XS.iconst hA hx rfl (hb hb' hd) hr) K
theorem Walk.bipush (C : Walk W l Z a0 tb EL own code ml rt nm R Q ou) (pc' : Nat) (v : Int32) {i : Int} (hd : decode code pc = .ok (.bipush i, 2)) (hp : pc' = pc + 2) (hv : (Int8.ofInt i).toInt32 = v) (K : W h os k n pc' Ls (.int v :: st)) : W h os k n pc Ls st := by
  subst hp hv; exact C.plain (fun hA hx hb' hr => XS.bipush hA hx rfl (hb hb' hd) hr) K
theorem Walk.sipush (C : Walk W l Z a0 tb EL own code ml rt nm R Q ou) (pc' : Nat) (v : Int32) {i : Int} (hd : decode code pc = .ok (.sipush i, 3)) (hp : pc' = pc + 3) (hv : (Int16.ofInt i).toInt32 = v) (K : W h os k n pc' Ls (.int v :: st)) : W h os k n pc Ls st := by
  subst hp hv; exact C.plain (fun hA hx hb' hr => XS.sipush hA hx rfl (hb hb' hd) hr) K
theorem Walk.lconst (C : Walk W l Z a0 tb EL own code ml rt nm R Q ou) (pc' : Nat) (v : Int64) {i : Fin 2} (hd : decode code pc = .ok (.lconst i, 1)) (hp : pc' = pc + 1) (hv : Int64.ofNat i = v) (K : W h os k n pc' Ls (.long v :: st)) : W h os k n pc Ls st := by
  subst hp hv; exact C.plain (fun hA hx hb' hr => XT.lconst hA hx rfl (hb hb' hd) hr) K
theorem Walk.aconstNull (C : Walk W l Z a0 tb EL own code ml rt nm R Q ou) (pc' : Nat) (hd : decode code pc = .ok (.aconst_null, 1)) (hp : pc' = pc + 1) (K : W h os k n pc' Ls (.null :: st)) : W h os k n pc Ls st := by
  subst hp; exact C.plain (fun hA hx hb' hr => XS.aconstNull hA hx rfl (hb hb' hd) hr) K
theorem Walk.iadd (C : Walk W l Z a0 tb EL own code ml rt nm R Q ou) (pc' : Nat) {x y : Int32} (hd : decode code pc = .ok (.iadd, 1)) (hp : pc' = pc + 1) (K : W h os k n pc' Ls (.int (x + y) :: st)) : W h os k n pc Ls (.int y :: .int x :: st) := by
  subst hp; exact C.plain (fun hA hx hb' hr => XS.iadd hA hx rfl (hb hb' hd) rfl hr) K
theorem Walk.isub (C : Walk W l Z a0 tb EL own code ml rt nm R Q ou) (pc' : Nat) {x y : Int32} (hd : decode code pc = .ok (.isub, 1)) (hp : pc' = pc + 1) (K : W h os k n pc' Ls (.int (x - y) :: st)) : W h os k n pc Ls (.int y :: .int x :: st) := by
  subst hp; exact C.plain (fun hA hx hb' hr => XS.isub hA hx rfl (hb hb' hd) rfl hr) K
theorem Walk.iand (C : Walk W l Z a0 tb EL own code ml rt nm R Q ou) (pc' : Nat) {x y : Int32} (hd : decode code pc = .ok (.iand, 1)) (hp : pc' = pc + 1) (K : W h os k n pc' Ls (.int (x &&& y) :: st)) : W h os k n pc Ls (.int y :: .int x :: st) := by
  subst hp; exact C.plain (fun hA hx hb' hr => XS.iand hA hx rfl (hb hb' hd) rfl hr) K
theorem Walk.imul (C : Walk W l Z a0 tb EL own code ml rt nm R Q ou) (pc' : Nat) {x y : Int32} (hd : decode code pc = .ok (.imul, 1)) (hp : pc' = pc + 1) (K : W h os k n pc' Ls (.int (x * y) :: st)) : W h os k n pc Ls (.int y :: .int x :: st) := by
  subst hp; exact C.plain (fun hA hx hb' hr => XS.imul hA hx rfl (hb hb' hd) rfl hr) K
theorem Walk.ixor (C : Walk W l Z a0 tb EL own code ml rt nm R Q ou) (pc' : Nat) {x y : Int32} (hd : decode code pc = .ok (.ixor, 1)) (hp : pc' = pc + 1) (K : W h os k n pc' Ls (.int (x ^^^ y) :: st)) : W h os k n pc Ls (.int y :: .int x :: st) := by
  subst hp; exact C.plain (fun hA hx hb' hr => XT.ixor hA hx rfl (hb hb' hd) rfl hr) K
theorem Walk.ior (C : Walk W l Z a0 tb EL own code ml rt nm R Q ou) (pc' : Nat) {x y : Int32} (hd : decode code pc = .ok (.ior, 1)) (hp : pc' = pc + 1) (K : W h os k n pc' Ls (.int (x ||| y) :: st)) : W h os k n pc Ls (.int y :: .int x :: st) := by
  subst hp; exact C.plain (fun hA hx hb' hr => XT.ior hA hx rfl (hb hb' hd) rfl hr) K
theorem Walk.ishl (C : Walk W l Z a0 tb EL own code ml rt nm R Q ou) (pc' : Nat) {x y : Int32} (hd : decode code pc = .ok (.ishl, 1)) (hp : pc' = pc + 1) (K : W h os k n pc' Ls (.int (x <<< (y &&& 31)) :: st)) : W h os k n pc Ls (.int y :: .int x :: st) := by
  subst hp; exact C.plain (fun hA hx hb' hr => XT.ishl hA hx rfl (hb hb' hd) rfl hr) K
theorem Walk.ishr (C : Walk W l Z a0 tb EL own code ml rt nm R Q ou) (pc' : Nat) {x y : Int32} (hd : decode code pc = .ok (.ishr, 1)) (hp : pc' = pc + 1) (K : W h os k n pc' Ls (.int (x >>> (y &&& 31)) :: st)) : W h os k n pc Ls (.int y :: .int x :: st) := by
  subst hp; exact C.plain (fun hA hx hb' hr => XT.ishr hA hx rfl (hb hb' hd) rfl hr) K
theorem Walk.iushr (C : Walk W l Z a0 tb EL own code ml rt nm R Q ou) (pc' : Nat) {x y : Int32} (hd : decode code pc = .ok (.iushr, 1)) (hp : pc' = pc + 1) (K : W h os k n pc' Ls (.int (XT.ushr x y) :: st)) : W h os k n pc Ls (.int y :: .int x :: st) := by
  subst hp; exact C.plain (fun hA hx hb' hr => XT.iushr hA hx rfl (hb hb' hd) rfl hr) K
theorem Walk.ladd (C : Walk W l Z a0 tb EL own code ml rt nm R Q ou) (pc' : Nat) {x y : Int64} (hd : decode code pc = .ok (.ladd, 1)) (hp : pc' = pc + 1) (K : W h os k n pc' Ls (.long (x + y) :: st)) : W h os k n pc Ls (.long y :: .long x :: st) := by
  subst hp; exact C.plain (fun hA hx hb' hr => XT.ladd hA hx rfl (hb hb' hd) rfl hr) K
theorem Walk.lsub (C : Walk W l Z a0 tb EL own code ml rt nm R Q ou) (pc' : Nat) {x y : Int64} (hd : decode code pc = .ok (.lsub, 1)) (hp : pc' = pc + 1) (K : W h os k n pc' Ls (.long (x - y) :: st)) : W h os k n pc Ls (.long y :: .long x :: st) := by
  subst hp; exact C.plain (fun hA hx hb' hr => XT.lsub hA hx rfl (hb hb' hd) rfl hr) K
theorem Walk.lmul (C : Walk W l Z a0 tb EL own code ml rt nm R Q ou) (pc' : Nat) {x y : Int64} (hd : decode code pc = .ok (.lmul, 1)) (hp : pc' = pc + 1) (K : W h os k n pc' Ls (.long (x * y) :: st)) : W h os k n pc Ls (.long y :: .long x :: st) := by
  subst hp; exact C.plain (fun hA hx hb' hr => XT.lmul hA hx rfl (hb hb' hd) rfl hr) K
theorem Walk.land (C : Walk W l Z a0 tb EL own code ml rt nm R Q ou) (pc' : Nat) {x y : Int64} (hd : decode code pc = .ok (.land, 1)) (hp : pc' = pc + 1) (K : W h os k n pc' Ls (.long (x &&& y) :: st)) : W h os k n pc Ls (.long y :: .long x :: st) := by
  subst hp; exact C.plain (fun hA hx hb' hr => XT.land hA hx rfl (hb hb' hd) rfl hr) K
theorem Walk.lor (C : Walk W l Z a0 tb EL own code ml rt nm R Q ou) (pc' : Nat) {x y : Int64} (hd : decode code pc = .ok (.lor, 1)) (hp : pc' = pc + 1) (K : W h os k n pc' Ls (.long (x ||| y) :: st)) : W h os k n pc Ls (.long y :: .long x :: st) := by
  subst hp; exact C.plain (fun hA hx hb' hr => XT.lor hA hx rfl (hb hb' hd) rfl hr) K
theorem Walk.lxor (C : Walk W l Z a0 tb EL own code ml rt nm R Q ou) (pc' : Nat) {x y : Int64} (hd : decode code pc = .ok (.lxor, 1)) (hp : pc' = pc + 1) (K : W h os k n pc' Ls (.long (x ^^^ y) :: st)) : W h os k n pc Ls (.long y :: .long x :: st) := by
  subst hp; exact C.plain (fun hA hx hb' hr => XT.lxor hA hx rfl (hb hb' hd) rfl hr) K
theorem Walk.lcmp (C : Walk W l Z a0 tb EL own code ml rt nm R Q ou) (pc' : Nat) {x y : Int64} (hd : decode code pc = .ok (.lcmp, 1)) (hp : pc' = pc + 1) (K : W h os k n pc' Ls (.int (XT.cmpL x y) :: st)) : W h os k n pc Ls (.long y :: .long x :: st) := by
  subst hp; exact C.plain (fun hA hx hb' hr => XT.lcmp hA hx rfl (hb hb' hd) rfl hr) K
theorem Walk.idiv (C : Walk W l Z a0 tb EL own code ml rt nm R Q ou) (pc' : Nat) {x y : Int32} (hd : decode code pc = .ok (.idiv, 1)) (hp : pc' = pc + 1) (hy : y ≠ 0) (K : W h os k n pc' Ls (.int (x / y) :: st)) : W h os k n pc Ls (.int y :: .int x :: st) := by
  subst hp; exact C.plain (fun hA hx hb' hr => XS.idiv hA hx rfl (hb hb' hd) rfl hy hr) K
theorem Walk.irem (C : Walk W l Z a0 tb EL own code ml rt nm R Q ou) (pc' : Nat) {x y : Int32} (hd : decode code pc = .ok (.irem, 1)) (hp : pc' = pc + 1) (hy : y ≠ 0) (K : W h os k n pc' Ls (.int (x % y) :: st)) : W h os k n pc Ls (.int y :: .int x :: st) := by
  subst hp; rw [← irem_eq_mod] at K; exact C.plain (fun hA hx hb' hr => XS.irem hA hx rfl (hb hb' hd) rfl hy hr) K
theorem Walk.i2l (C : Walk W l Z a0 tb EL own code ml rt nm R Q ou) (pc' : Nat) {x : Int32} (hd : decode code pc = .ok (.i2l, 1)) (hp : pc' = pc + 1) (K : W h os k n pc' Ls (.long x.toInt64 :: st)) : W h os k n pc Ls (.int x :: st) := by
  subst hp; exact C.plain (fun hA hx hb' hr => XT.i2l hA hx rfl (hb hb' hd) rfl hr) K
theorem Walk.l2i (C : Walk W l Z a0 tb EL own code ml rt nm R Q ou) (pc' : Nat) {x : Int64} (hd : decode code pc = .ok (.l2i, 1)) (hp : pc' = pc + 1) (K : W h os k n pc' Ls (.int x.toInt32 :: st)) : W h os k n pc Ls (.long x :: st) := by
  subst hp; exact C.plain (fun hA hx hb' hr => XT.l2i hA hx rfl (hb hb' hd) rfl hr) K
theorem Walk.i2b (C : Walk W l Z a0 tb EL own code ml rt nm R Q ou) (pc' : Nat) {x : Int32} (hd : decode code pc = .ok (.i2b, 1)) (hp : pc' = pc + 1) (K : W h os k n pc' Ls (.int x.toInt8.toInt32 :: st)) : W h os k n pc Ls (.int x :: st) := by
  subst hp; exact C.plain (fun hA hx hb' hr => XT.i2b hA hx rfl (hb hb' hd) rfl hr) K
theorem Walk.i2c (C : Walk W l Z a0 tb EL own code ml rt nm R Q ou) (pc' : Nat) {x : Int32} (hd : decode code pc = .ok (.i2c, 1)) (hp : pc' = pc + 1) (K : W h os k n pc' Ls (.int x.toUInt32.toUInt16.toUInt32.toInt32 :: st)) : W h os k n pc Ls (.int x :: st) := by
  subst hp; exact C.plain (fun hA hx hb' hr => XT.i2c hA hx rfl (hb hb' hd) rfl hr) K
theorem Walk.ineg (C : Walk W l Z a0 tb EL own code ml rt nm R Q ou) (pc' : Nat) {x : Int32} (hd : decode code pc = .ok (.ineg, 1)) (hp : pc' = pc + 1) (K : W h os k n pc' Ls (.int (-x) :: st)) : W h os k n pc Ls (.int x :: st) := by
  subst hp; exact C.plain (fun hA hx hb' hr => XS.ineg hA hx rfl (hb hb' hd) rfl hr) K
theorem Walk.dup (C : Walk W l Z a0 tb EL own code ml rt nm R Q ou) (pc' : Nat) {x : Value} (hd : decode code pc = .ok (.dup, 1)) (hp : pc' = pc + 1) (hc : x.category = 1) (K : W h os k n pc' Ls (x :: x :: st)) : W h os k n pc Ls (x :: st) := by
  subst hp; exact C.plain (fun hA hx hb' hr => XS.dup hA hx rfl (hb hb' hd) rfl hc hr) K
theorem Walk.dupX1 (C : Walk W l Z a0 tb EL own code ml rt nm R Q ou) (pc' : Nat) {x y : Value} (hd : decode code pc = .ok (.dup_x1, 1)) (hp : pc' = pc + 1) (hc : x.category = 1) (hc' : y.category = 1) (K : W h os k n pc' Ls (x :: y :: x :: st)) : W h os k n pc Ls (x :: y :: st) := by
  subst hp; exact C.plain (fun hA hx hb' hr => XT.dupX1 hA hx rfl (hb hb' hd) rfl hc hc' hr) K
theorem Walk.dup2 (C : Walk W l Z a0 tb EL own code ml rt nm R Q ou) (pc' : Nat) {x y : Value} (hd : decode code pc = .ok (.dup2, 1)) (hp : pc' = pc + 1) (hc : x.category = 1) (hc' : y.category = 1) (K : W h os k n pc' Ls (x :: y :: x :: y :: st)) : W h os k n pc Ls (x :: y :: st) := by
  subst hp; exact C.plain (fun hA hx hb' hr => XT.dup2 hA hx rfl (hb hb' hd) rfl hc hc' hr) K
theorem Walk.pop (C : Walk W l Z a0 tb EL own code ml rt nm R Q ou) (pc' : Nat) {x : Value} (hd : decode code pc = .ok (.pop, 1)) (hp : pc' = pc + 1) (hc : x.category = 1) (K : W h os k n pc' Ls st) : W h os k n pc Ls (x :: st) := by
  subst hp; exact C.plain (fun hA hx hb' hr => XT.pop hA hx rfl (hb hb' hd) rfl hc hr) K
theorem Walk.iinc (C : Walk W l Z a0 tb EL own code ml rt nm R Q ou) (pc' : Nat) (Ls' : Array Slot) {i : Nat} {cst : Int} {x : Int32} (hd : decode code pc = .ok (.iinc i cst, 3)) (hp : pc' = pc + 3) (hl : Ls[i]? = some (.val (.int x))) (hl' : storeLocals Ls i (.int (x + Int32.ofInt cst)) = some Ls') (K : W h os k n pc' Ls' st) : W h os k n pc Ls st := by
  subst hp; exact C.plain (fun hA hx hb' hr => XS.iinc hA hx rfl (hb hb' hd) hl hl' hr) K
theorem Walk.goto (C : Walk W l Z a0 tb EL own code ml rt nm R Q ou) (pc' : Nat) {o : Int} (hd : decode code pc = .ok (.goto o, 3)) (hp : (pc : Int) + o = (pc' : Int)) (K : W h os k n pc' Ls st) : W h os k n pc Ls st :=
  C.plain (fun hA hx hb' hr => XS.goto hA hx rfl (pc0 := pc) (pc' := pc') rfl (hb hb' hd) (by omega) (by omega) hr) K
theorem Walk.ifT (C : Walk W l Z a0 tb EL own code ml rt nm R Q ou) (pc' : Nat) {cd : ClassFile.Cond} {x : Int32} {o : Int} (hd : decode code pc = .ok (.ifCond cd o, 3)) (hp : (pc : Int) + o = (pc' : Int)) (hc : ifCond.holds cd x = true) (K : W h os k n pc' Ls st) : W h os k n pc Ls (.int x :: st) :=
  C.plain (fun hA hx hb' hr => XS.ifYes hA hx rfl (pc0 := pc) (pc' := pc') rfl (hb hb' hd) rfl hc (by omega) (by omega) hr) K
theorem Walk.ifF (C : Walk W l Z a0 tb EL own code ml rt nm R Q ou) (pc' : Nat) {cd : ClassFile.Cond} {x : Int32} {o : Int} (hd : decode code pc = .ok (.ifCond cd o, 3)) (hp : pc' = pc + 3) (hc : ifCond.holds cd x = false) (K : W h os k n pc' Ls st) : W h os k n pc Ls (.int x :: st) := by
  subst hp; exact C.plain (fun hA hx hb' hr => XS.ifNo hA hx rfl (hb hb' hd) rfl hc hr) K
theorem Walk.icmpT (C : Walk W l Z a0 tb EL own code ml rt nm R Q ou) (pc' : Nat) {cd : ClassFile.Cond} {x y : Int32} {o : Int} (hd : decode code pc = .ok (.if_icmp cd o, 3)) (hp : (pc : Int) + o = (pc' : Int)) (hc : if_icmp.holds cd x y = true) (K : W h os k n pc' Ls st) : W h os k n pc Ls (.int y :: .int x :: st) :=
  C.plain (fun hA hx hb' hr => XS.icmpYes hA hx rfl (pc0 := pc) (pc' := pc') rfl (hb hb' hd) rfl hc (by omega) (by omega) hr) K
theorem Walk.icmpF (C : Walk W l Z a0 tb EL own code ml rt nm R Q ou) (pc' : Nat) {cd : ClassFile.Cond} {x y : Int32} {o : Int} (hd : decode code pc = .ok (.if_icmp cd o, 3)) (hp : pc' = pc + 3) (hc : if_icmp.holds cd x y = false) (K : W h os k n pc' Ls st) : W h os k n pc Ls (.int y :: .int x :: st) := by
  subst hp; exact C.plain (fun hA hx hb' hr => XS.icmpNo hA hx rfl (hb hb' hd) rfl hc hr) K
theorem Walk.acmpT (C : Walk W l Z a0 tb EL own code ml rt nm R Q ou) (pc' : Nat) {cd : ClassFile.ACond} {x y : Value} {o : Int} (hd : decode code pc = .ok (.if_acmp cd o, 3)) (hp : (pc : Int) + o = (pc' : Int)) (h1 : x.isRef = true) (h2 : y.isRef = true) (hc : XT.acmp cd x y = true) (K : W h os k n pc' Ls st) : W h os k n pc Ls (y :: x :: st) :=
  C.plain (fun hA hx hb' hr => XT.acmpYes hA hx rfl (pc0 := pc) (pc' := pc') rfl (hb hb' hd) rfl h1 h2 hc (by omega) (by omega) hr) K
theorem Walk.acmpF (C : Walk W l Z a0 tb EL own code ml rt nm R Q ou) (pc' : Nat) {cd : ClassFile.ACond} {x y : Value} {o : Int} (hd : decode code pc = .ok (.if_acmp cd o, 3)) (hp : pc' = pc + 3) (h1 : x.isRef = true) (h2 : y.isRef = true) (hc : XT.acmp cd x y = false) (K : W h os k n pc' Ls st) : W h os k n pc Ls (y :: x :: st) := by
  subst hp; exact C.plain (fun hA hx hb' hr => XT.acmpNo hA hx rfl (hb hb' hd) rfl h1 h2 hc hr) K
theorem Walk.ifnullT (C : Walk W l Z a0 tb EL own code ml rt nm R Q ou) (pc' : Nat) {o : Int} (hd : decode code pc = .ok (.ifnull o, 3)) (hp : (pc : Int) + o = (pc' : Int)) (K : W h os k n pc' Ls st) : W h os k n pc Ls (.null :: st) :=
  C.plain (fun hA hx hb' hr => XS.ifnullYes hA hx rfl (pc0 := pc) (pc' := pc') rfl (hb hb' hd) rfl (by omega) (by omega) hr) K
theorem Walk.ifnullF (C : Walk W l Z a0 tb EL own code ml rt nm R Q ou) (pc' : Nat) {b : Addr} {o : Int} (hd : decode code pc = .ok (.ifnull o, 3)) (hp : pc' = pc + 3) (K : W h os k n pc' Ls st) : W h os k n pc Ls (.ref b :: st) := by
  subst hp; exact C.plain (fun hA hx hb' hr => XS.ifnullNo hA hx rfl (hb hb' hd) rfl hr) K
theorem Walk.ifnonnullT (C : Walk W l Z a0 tb EL own code ml rt nm R Q ou) (pc' : Nat) {b : Addr} {o : Int} (hd : decode code pc = .ok (.ifnonnull o, 3)) (hp : (pc : Int) + o = (pc' : Int)) (K : W h os k n pc' Ls st) : W h os k n pc Ls (.ref b :: st) :=
  C.plain (fun hA hx hb' hr => XT.ifnonnullYes hA hx rfl (pc0 := pc) (pc' := pc') rfl (hb hb' hd) rfl (by omega) (by omega) hr) K
theorem Walk.ifnonnullF (C : Walk W l Z a0 tb EL own code ml rt nm R Q ou) (pc' : Nat) {o : Int} (hd : decode code pc = .ok (.ifnonnull o, 3)) (hp : pc' = pc + 3) (K : W h os k n pc' Ls st) : W h os k n pc Ls (.null :: st) := by
  subst hp; exact C.plain (fun hA hx hb' hr => XT.ifnonnullNo hA hx rfl (hb hb' hd) rfl hr) K
theorem Walk.lshl (C : Walk W l Z a0 tb EL own code ml rt nm R Q ou) (pc' : Nat) {x : Int64} {y : Int32} (hd : decode code pc = .ok (.lshl, 1)) (hp : pc' = pc + 1) (K : W h os k n pc' Ls (.long (x <<< (y.toInt64 &&& 63)) :: st)) : W h os k n pc Ls (.int y :: .long x :: st) := by
  subst hp; exact C.plain (fun hA hx hb' hr => XT.lshl hA hx rfl (hb hb' hd) rfl hr) K
theorem Walk.lshr (C : Walk W l Z a0 tb EL own code ml rt nm R Q ou) (pc' : Nat) {x : Int64} {y : Int32} (hd : decode code pc = .ok (.lshr, 1)) (hp : pc' = pc + 1) (K : W h os k n pc' Ls (.long (x >>> (y.toInt64 &&& 63)) :: st)) : W h os k n pc Ls (.int y :: .long x :: st) := by
  subst hp; exact C.plain (fun hA hx hb' hr => XT.lshr hA hx rfl (hb hb' hd) rfl hr) K
theorem Walk.lushr (C : Walk W l Z a0 tb EL own code ml rt nm R Q ou) (pc' : Nat) {x : Int64} {y : Int32} (hd : decode code pc = .ok (.lushr, 1)) (hp : pc' = pc + 1) (K : W h os k n pc' Ls (.long (XT.ushrL x y) :: st)) : W h os k n pc Ls (.int y :: .long x :: st) := by
  subst hp; exact C.plain (fun hA hx hb' hr => XT.lushr hA hx rfl (hb hb' hd) rfl hr) K
/-! the returns -/
theorem Walk.ret (C : Walk W l Z a0 tb EL own code ml rt nm R Q ou) {v : Value} {t : FieldType} {i : Instr} (hd : decode code pc = .ok (i, 1)) (hrt : rt = some t) (hn : narrow t v = v)
    (hi : (i = .ireturn ∧ (t = .int ∨ t = .boolean ∨ t = .byte ∨ t = .char ∨ t = .short) ∧ ∃ z, v = .int z) ∨ (i = .lreturn ∧ t = .long ∧ ∃ z, v = .long z) ∨ (i = .dreturn ∧ t = .double ∧ ∃ z, v = .double z) ∨ (i = .freturn ∧ t = .float ∧ ∃ z, v = .float z) ∨ (i = .areturn ∧ t.isReference = true ∧ v.isRef = true))
    (hq : Q (some v) h) (hk : k ≤ R.cells) (hs : n ≤ R.slots) (ho : ∀ x ∈ ou (some v), x ∈ os) : W h os k n pc Ls (v :: st) := by
  obtain ⟨p, e, s, m, args, below, meth, c, rfl, hx, hby, hml, hown0, hrt', hlk, hZ0, hnm, hw, hEL⟩ := C
  intro hE vm0 k0 T locs hS hk0 H hos X eT N
  have hZ : Z.Warmed39 (s.setVm vm0).vm := State.Warmed39.trans hZ0 hS.1
  have hown : (s.setVm vm0).vm.findClass own = some m.cls := by show vm0.findClass own = _; rw [hS.1.alike.findClass]; exact hown0
  subst eT hrt
  obtain ⟨fs, hr, hrun, hended, hA, hB, hD, hsame⟩ := X.leaveW hS hk0 (v := some v) (fun h => by rw [hrt'] at h; cases h)
  have hCA : CHr Z EL vm0 T.heap T.vm T.heap := CHv.at X hZ hEL H.1
  exact ⟨_, _, retOut X hx hrt' hn hi (hb hby hd) hr, hrun, hended, _, _, rfl, ⟨hq, hE, N⟩, (hos.on hCA).sub ho, H.trans hCA, hA, hB, hD, hsame.mono hk hs⟩
theorem Walk.ret0 (C : Walk W l Z a0 tb EL own code ml rt nm R Q ou) (hd : decode code pc = .ok (.return_, 1)) (hrt : rt = none) (hk : k ≤ R.cells) (hs : n ≤ R.slots) (hq : Q none h) (ho : ∀ x ∈ ou none, x ∈ os) : W h os k n pc Ls [] := by
  obtain ⟨p, e, s, m, args, below, meth, c, rfl, hx, hby, hml, hown0, hrt', hlk, hZ0, hnm, hw, hEL⟩ := C
  intro hE vm0 k0 T locs hS hk0 H hos X eT N
  have hZ : Z.Warmed39 (s.setVm vm0).vm := State.Warmed39.trans hZ0 hS.1
  have hown : (s.setVm vm0).vm.findClass own = some m.cls := by show vm0.findClass own = _; rw [hS.1.alike.findClass]; exact hown0
  subst eT hrt
  obtain ⟨fs, hr, hrun, hended, hA, hB, hD, hsame⟩ := X.leaveW hS hk0 (v := none) (fun _ => rfl)
  have hCA : CHr Z EL vm0 T.heap T.vm T.heap := CHv.at X hZ hEL H.1
  exact ⟨_, _, X.returnOut hx hrt' (hb hby hd) hr, hrun, hended, _, _, rfl, ⟨hq, hE, N⟩, (hos.on hCA).sub ho, H.trans hCA, hA, hB, hD, hsame.mono hk hs⟩
theorem Walk.retI (C : Walk W l Z a0 tb EL own code ml rt nm R Q ou) {x : Int32} (t : FieldType) (hd : decode code pc = .ok (.ireturn, 1)) (hrt : rt = some t) (ht : t = .int ∨ t = .boolean ∨ t = .byte ∨ t = .char ∨ t = .short) (hn : nar t x = x)
    (hk : k ≤ R.cells) (hs : n ≤ R.slots) (hq : Q (some (.int x)) h) (ho : ∀ y ∈ ou (some (.int x)), y ∈ os) : W h os k n pc Ls (.int x :: st) :=
  C.ret hd hrt (by have e : narrow t (.int x) = .int (nar t x) := by rcases ht with rfl | rfl | rfl | rfl | rfl <;> rfl
                   rw [e, hn]) (Or.inl ⟨rfl, ht, _, rfl⟩) hq hk hs ho
theorem Walk.retA (C : Walk W l Z a0 tb EL own code ml rt nm R Q ou) {v : Value} (t : FieldType) (hd : decode code pc = .ok (.areturn, 1)) (hrt : rt = some t) (ht : t.isReference = true) (hv : v.isRef = true)
    (hk : k ≤ R.cells) (hs : n ≤ R.slots) (hq : Q (some v) h) (ho : ∀ y ∈ ou (some v), y ∈ os) : W h os k n pc Ls (v :: st) :=
  C.ret hd hrt (by cases t <;> first | (cases ht; done) | (cases v <;> first | (cases hv; done) | rfl)) (Or.inr (Or.inr (Or.inr (Or.inr ⟨rfl, ht, hv⟩)))) hq hk hs ho
/-! constants of the pool, static fields, fields -/
theorem Walk.ldc (C : Walk W l Z a0 tb EL own code ml rt nm R Q ou) (pc' : Nat) (v : Int32) {idx : Nat} (hd : decode code pc = .ok (.ldc idx, 2)) (hp : pc' = pc + 2) (w : Jvm.Cond.constant own idx v ∈ tb) (K : W h os k n pc' Ls (.int v :: st)) : W h os k n pc Ls st := by
  obtain ⟨p, e, s, m, args, below, meth, c, rfl, hx, hby, hml, hown0, hrt', hlk, hZ0, hnm, hw, hEL⟩ := C
  intro hE vm0 k0 T locs hS hk0 H hos X eT N
  have hZ : Z.Warmed39 (s.setVm vm0).vm := State.Warmed39.trans hZ0 hS.1
  have hown : (s.setVm vm0).vm.findClass own = some m.cls := by show vm0.findClass own = _; rw [hS.1.alike.findClass]; exact hown0
  subst hp
  obtain ⟨u, o, h1, h2⟩ := K hE vm0 k0 T locs hS hk0 H hos X eT N
  exact ⟨u, o, X.ldcI hx hown (mv hZ (hw _ w)) rfl (hb hby hd) h1, h2⟩
theorem Walk.ldcW (C : Walk W l Z a0 tb EL own code ml rt nm R Q ou) (pc' : Nat) (v : Int32) {idx : Nat} (hd : decode code pc = .ok (.ldc_w idx, 3)) (hp : pc' = pc + 3) (w : Jvm.Cond.constant own idx v ∈ tb) (K : W h os k n pc' Ls (.int v :: st)) : W h os k n pc Ls st := by
  obtain ⟨p, e, s, m, args, below, meth, c, rfl, hx, hby, hml, hown0, hrt', hlk, hZ0, hnm, hw, hEL⟩ := C
  intro hE vm0 k0 T locs hS hk0 H hos X eT N
  have hZ : Z.Warmed39 (s.setVm vm0).vm := State.Warmed39.trans hZ0 hS.1
  have hown : (s.setVm vm0).vm.findClass own = some m.cls := by show vm0.findClass own = _; rw [hS.1.alike.findClass]; exact hown0
  subst hp
  obtain ⟨u, o, h1, h2⟩ := K hE vm0 k0 T locs hS hk0 H hos X eT N
  exact ⟨u, o, X.ldcWI hx hown (mv hZ (hw _ w)) rfl (hb hby hd) h1, h2⟩
theorem Walk.ldc2 (C : Walk W l Z a0 tb EL own code ml rt nm R Q ou) (pc' : Nat) (v : Int64) {idx : Nat} (hd : decode code pc = .ok (.ldc2_w idx, 3)) (hp : pc' = pc + 3) (w : Jvm.Cond.constantLong own idx v ∈ tb) (K : W h os k n pc' Ls (.long v :: st)) : W h os k n pc Ls st := by
  obtain ⟨p, e, s, m, args, below, meth, c, rfl, hx, hby, hml, hown0, hrt', hlk, hZ0, hnm, hw, hEL⟩ := C
  intro hE vm0 k0 T locs hS hk0 H hos X eT N
  have hZ : Z.Warmed39 (s.setVm vm0).vm := State.Warmed39.trans hZ0 hS.1
  have hown : (s.setVm vm0).vm.findClass own = some m.cls := by show vm0.findClass own = _; rw [hS.1.alike.findClass]; exact hown0
  subst hp
  obtain ⟨u, o, h1, h2⟩ := K hE vm0 k0 T locs hS hk0 H hos X eT N
  exact ⟨u, o, X.ldc2J hx hown (mv hZ (hw _ w)) rfl (hb hby hd) h1, h2⟩
theorem Walk.getstatic (C : Walk W l Z a0 tb EL own code ml rt nm R Q ou) (pc' : Nat) {idx : Nat} {O f d : String} {v : Value} (hd : decode code pc = .ok (.getstatic idx, 3)) (hp : pc' = pc + 3) (w : Jvm.Cond.fieldLink own idx O f d ∈ tb) (F : Sta Z Z.heap O f d v) (K : W h os k n pc' Ls (v :: st)) : W h os k n pc Ls st := by
  obtain ⟨p, e, s, m, args, below, meth, c, rfl, hx, hby, hml, hown0, hrt', hlk, hZ0, hnm, hw, hEL⟩ := C
  intro hE vm0 k0 T locs hS hk0 H hos X eT N
  have hZ : Z.Warmed39 (s.setVm vm0).vm := State.Warmed39.trans hZ0 hS.1
  have hown : (s.setVm vm0).vm.findClass own = some m.cls := by show vm0.findClass own = _; rw [hS.1.alike.findClass]; exact hown0
  subst hp
  obtain ⟨T', X', e', S⟩ := getS X hx hZ hown (host := "") (hw _ w) Via.refl eT (F.ext hE) (g := mkF m pc Ls st) rfl (hb hby hd)
  obtain ⟨u, o, h1, h2⟩ := K hE vm0 k0 T' locs hS hk0 H hos X' e' N
  exact ⟨u, o, S _ h1, h2⟩
theorem Walk.getfield (C : Walk W l Z a0 tb EL own code ml rt nm R Q ou) (pc' : Nat) {idx : Nat} {R0 O f d : String} {a : Addr} {v : Value} (hd : decode code pc = .ok (.getfield idx, 3)) (hp : pc' = pc + 3) (w : Jvm.Cond.fieldLink own idx R0 f d ∈ tb) (via : Via Z R0 O f d) (F : Fld Z h a O f d v) (K : W h os k n pc' Ls (v :: st)) : W h os k n pc Ls (.ref a :: st) := by
  obtain ⟨p, e, s, m, args, below, meth, c, rfl, hx, hby, hml, hown0, hrt', hlk, hZ0, hnm, hw, hEL⟩ := C
  intro hE vm0 k0 T locs hS hk0 H hos X eT N
  have hZ : Z.Warmed39 (s.setVm vm0).vm := State.Warmed39.trans hZ0 hS.1
  have hown : (s.setVm vm0).vm.findClass own = some m.cls := by show vm0.findClass own = _; rw [hS.1.alike.findClass]; exact hown0
  subst hp
  obtain ⟨T', X', e', S⟩ := getF X hx hZ hown (host := "") (Or.inl (hw _ w)) via eT F (g := mkF m pc Ls (.ref a :: st)) rfl rfl (hb hby hd)
  obtain ⟨u, o, h1, h2⟩ := K hE vm0 k0 T' locs hS hk0 H hos X' e' N
  exact ⟨u, o, S _ h1, h2⟩
theorem Walk.getfieldOld (C : Walk W l Z a0 tb EL own code ml rt nm R Q ou) (pc' : Nat) {idx : Nat} {R0 O f d : String} {a : Addr} {v : Value} (hd : decode code pc = .ok (.getfield idx, 3)) (hp : pc' = pc + 3) (w : Jvm.Cond.fieldLink own idx R0 f d ∈ tb) (via : Via Z R0 O f d) (F : Fld Z Z.heap a O f d v) (K : W h os k n pc' Ls (v :: st)) : W h os k n pc Ls (.ref a :: st) :=
  C.kept fun hE => C.getfield pc' hd hp w via (F.ext hE) K
theorem Walk.putfield (C : Walk W l Z a0 tb EL own code ml rt nm R Q ou) (pc' : Nat) {idx kk : Nat} {R0 O f d D : String} {a : Addr} {v v' old : Value} (ty : FieldType) (hd : decode code pc = .ok (.putfield idx, 3)) (hp : pc' = pc + 3) (w : Jvm.Cond.fieldLink own idx R0 f d ∈ tb) (via : Via Z R0 O f d) (F : Fld Z h a O f d old) (E : Exa Z h a D)
    (L : Jvm.Cond.lays D O f d ∈ tb ∨ (Jvm.Cond.laysFinal D O f d ∈ tb ∧ own = O ∧ nm = "<init>")) (wi : Jvm.Cond.instantiable D kk ∈ tb) (hty : parseFieldDescriptor d = some ty) (hn : narrow ty v = v') (hf : fits ty v' = true) (ha : a ∈ os)
    (K : ∀ h', Wr h h' a (Jvm.RoadKit.slotOf Z O f d) v' → W h' os k n pc' Ls st) : W h os k n pc Ls (v :: .ref a :: st) := by
  obtain ⟨p, e, s, m, args, below, meth, c, rfl, hx, hby, hml, hown0, hrt', hlk, hZ0, hnm, hw, hEL⟩ := C
  intro hE vm0 k0 T locs hS hk0 H hos X eT N
  have hZ : Z.Warmed39 (s.setVm vm0).vm := State.Warmed39.trans hZ0 hS.1
  have hown : (s.setVm vm0).vm.findClass own = some m.cls := by show vm0.findClass own = _; rw [hS.1.alike.findClass]; exact hown0
  subst hp
  obtain ⟨T', h', X', e', Wr', S⟩ := putFN X hx hZ hown (hw _ w) via eT F E (L.imp (hw _) fun q => ⟨hw _ q.1, q.2.1, hnm.trans q.2.2⟩) (hw _ wi) hty hn hf (g := mkF m pc Ls (v :: .ref a :: st)) rfl rfl (hb hby hd)
  obtain ⟨u, o, h1, h2⟩ := K h' Wr' (Old.wr (n0 := Z.heap.size) ⟨rfl, hE⟩ Wr' (hos a ha).1).2 vm0 k0 T' _ hS (by rw [Wr'.size]; exact hk0) (H.trans (CHr.wr Wr' (hos a ha).2.1 H.1)) (hos.wr Wr' (hos a ha).2.1 H.1) X' e' (Fr.snoc X' N (hos a ha).1)
  exact ⟨u, o, S _ h1, h2⟩
/-! arrays: the places' values as a list -/
def Al (Z : State) (h : Heap) (a : Addr) (ty : FieldType) (vs : List Value) : Prop := ∃ c : Cell, Arr Z h a c ty ∧ c.slots.toList = vs
theorem Al.lt {a : Addr} {ty : FieldType} {vs : List Value} (A : Al Z h a ty vs) : a < h.size := by obtain ⟨c, A, -⟩ := A; exact A.lt
theorem Al.ext {h' : Heap} {a : Addr} {ty : FieldType} {vs : List Value} (A : Al Z h a ty vs) (E : Ext h h') : Al Z h' a ty vs := by obtain ⟨c, A, q⟩ := A; exact ⟨c, A.ext E, q⟩
theorem Al.keep {h' : Heap} {a : Addr} {ty : FieldType} {vs : List Value} {ws : List Addr} (A : Al Z h a ty vs) (K : Keep h h' ws) (q : a ∉ ws) : Al Z h' a ty vs := by obtain ⟨c, A, r⟩ := A; exact ⟨c, ⟨K.2.1 a c A.1 q, A.2⟩, r⟩
theorem Al.set {h' : Heap} {a : Addr} {ty : FieldType} {vs : List Value} {i : Nat} {v : Value} (A : Al Z h a ty vs) (Wr' : Wr h h' a i v) : Al Z h' a ty (vs.set i v) := by
  obtain ⟨c, A, rfl⟩ := A
  exact ⟨_, A.same Wr', by simp [Cell.setSlot]⟩
theorem list_at {c : Cell} {vs : List Value} (q : c.slots.toList = vs) (i : Nat) : c.slots[i]? = vs[i]? := by subst q; simp
theorem list_sz {c : Cell} {vs : List Value} (q : c.slots.toList = vs) : c.slots.size = vs.length := by subst q; simp
theorem Walk.newarray (C : Walk W l Z a0 tb EL own code ml rt nm R Q ou) (pc' : Nat) {aty : ArrayType} {z : Int32} (cap : Nat) (hd : decode code pc = .ok (.newarray aty, 2)) (hp : pc' = pc + 2) (w : Jvm.Cond.arrayClass (newarray.typeOf aty) ∈ tb) (hz : ¬ z < 0) (hcap : z.toNatClampNeg ≤ cap) (hb' : cap * 8 ≤ 536870912) (hc : k + 1 ≤ R.cells) (hl : n + cap ≤ R.slots)
    (K : ∀ h', Ext h h' → Al Z h' h.size (newarray.typeOf aty) (List.replicate z.toNatClampNeg (defaultValue (newarray.typeOf aty))) → W h' (h.size :: os) (k + 1) (n + cap) pc' Ls (.ref h.size :: st)) : W h os k n pc Ls (.int z :: st) := by
  obtain ⟨p, e, s, m, args, below, meth, c, rfl, hx, hby, hml, hown0, hrt', hlk, hZ0, hnm, hw, hEL⟩ := C
  intro hE vm0 k0 T locs hS hk0 H hos X eT N
  have hZ : Z.Warmed39 (s.setVm vm0).vm := State.Warmed39.trans hZ0 hS.1
  have hown : (s.setVm vm0).vm.findClass own = some m.cls := by show vm0.findClass own = _; rw [hS.1.alike.findClass]; exact hown0
  subst hp
  obtain ⟨T', h', cA, X', e', E', A', S⟩ := newP X hx hZ (hw _ w) eT (g := mkF m pc Ls (.int z :: st)) rfl (hb hby hd) rfl hz hcap hb' hc hl
  obtain ⟨u, o, h1, h2⟩ := K h' E' ⟨_, A', by simp [newA]⟩ (Old.ext (n0 := Z.heap.size) ⟨rfl, hE⟩ E').2 vm0 k0 T' _ hS (Nat.le_trans hk0 E'.1) (H.trans (CHr.ext E' H.1)) (hos.made E' H.1 hE.1 A'.lt) X' e' N
  exact ⟨u, o, S _ h1, h2⟩
theorem Walk.anewarray (C : Walk W l Z a0 tb EL own code ml rt nm R Q ou) (pc' : Nat) {idx : Nat} {D : String} {z : Int32} (cap : Nat) (hd : decode code pc = .ok (.anewarray idx, 3)) (hp : pc' = pc + 3) (w : Jvm.Cond.classLink own idx D ∈ tb) (w2 : Jvm.Cond.arrayOver (.object D) ∈ tb) (hz : ¬ z < 0) (hcap : z.toNatClampNeg ≤ cap) (hb' : cap * 8 ≤ 536870912) (hc : k + 1 ≤ R.cells) (hl : n + cap ≤ R.slots)
    (K : ∀ h' cA, Ext h h' → (∃ c : Cell, Arr Z h' h.size c (.object D) ∧ c.cls = cA ∧ c.slots.toList = List.replicate z.toNatClampNeg .null) → Ovr Z cA D → W h' (h.size :: os) (k + 1) (n + cap) pc' Ls (.ref h.size :: st)) : W h os k n pc Ls (.int z :: st) := by
  obtain ⟨p, e, s, m, args, below, meth, c, rfl, hx, hby, hml, hown0, hrt', hlk, hZ0, hnm, hw, hEL⟩ := C
  intro hE vm0 k0 T locs hS hk0 H hos X eT N
  have hZ : Z.Warmed39 (s.setVm vm0).vm := State.Warmed39.trans hZ0 hS.1
  have hown : (s.setVm vm0).vm.findClass own = some m.cls := by show vm0.findClass own = _; rw [hS.1.alike.findClass]; exact hown0
  subst hp
  obtain ⟨T', h', cA, X', e', E', A', O', S⟩ := newR X hx hZ hown (hw _ w) (hw _ w2) eT (g := mkF m pc Ls (.int z :: st)) rfl (hb hby hd) rfl hz hcap hb' hc hl
  obtain ⟨u, o, h1, h2⟩ := K h' cA E' ⟨_, A', rfl, by simp [newA, defaultValue]⟩ O' (Old.ext (n0 := Z.heap.size) ⟨rfl, hE⟩ E').2 vm0 k0 T' _ hS (Nat.le_trans hk0 E'.1) (H.trans (CHr.ext E' H.1)) (hos.made E' H.1 hE.1 A'.lt) X' e' N
  exact ⟨u, o, S _ h1, h2⟩
/-- an array over the class D: its class, its places -/
def Ro (Z : State) (h : Heap) (a : Addr) (D : String) (cA : ClassId) (vs : List Value) : Prop := ∃ c : Cell, Arr Z h a c (.object D) ∧ c.cls = cA ∧ c.slots.toList = vs
theorem Ro.lt {a : Addr} {D : String} {cA : ClassId} {vs : List Value} (A : Ro Z h a D cA vs) : a < h.size := by obtain ⟨c, A, -⟩ := A; exact A.lt
theorem Ro.ext {h' : Heap} {a : Addr} {D : String} {cA : ClassId} {vs : List Value} (A : Ro Z h a D cA vs) (E : Ext h h') : Ro Z h' a D cA vs := by obtain ⟨c, A, q⟩ := A; exact ⟨c, A.ext E, q⟩
theorem Ro.keep {h' : Heap} {a : Addr} {D : String} {cA : ClassId} {vs : List Value} {ws : List Addr} (A : Ro Z h a D cA vs) (K : Keep h h' ws) (q : a ∉ ws) : Ro Z h' a D cA vs := by obtain ⟨c, A, r⟩ := A; exact ⟨c, ⟨K.2.1 a c A.1 q, A.2⟩, r⟩
theorem Walk.aastore (C : Walk W l Z a0 tb EL own code ml rt nm R Q ou) (pc' : Nat) {a b : Addr} {D : String} {cA : ClassId} {vs : List Value} {j : Int32} (i : Nat) (hd : decode code pc = .ok (.aastore, 1)) (hp : pc' = pc + 1) (A : Ro Z h a D cA vs) (O : Ovr Z cA D) (I : Ins Z h b D true) (ha : a ∈ os) (hn : ¬ j < 0) (hi : j.toNatClampNeg = i) (hl : i < vs.length)
    (K : ∀ h', Wr h h' a i (.ref b) → Ro Z h' a D cA (vs.set i (.ref b)) → W h' os k n pc' Ls st) : W h os k n pc Ls (.ref b :: .int j :: .ref a :: st) := by
  obtain ⟨p, e, s, m, args, below, meth, c, rfl, hx, hby, hml, hown0, hrt', hlk, hZ0, hnm, hw, hEL⟩ := C
  intro hE vm0 k0 T locs hS hk0 H hos X eT N
  have hZ : Z.Warmed39 (s.setVm vm0).vm := State.Warmed39.trans hZ0 hS.1
  have hown : (s.setVm vm0).vm.findClass own = some m.cls := by show vm0.findClass own = _; rw [hS.1.alike.findClass]; exact hown0
  subst hp
  obtain ⟨cl, A1, A2, A3⟩ := A
  have hj : ¬ (j < 0 ∨ cl.slots.size ≤ j.toNatClampNeg) := by rw [list_sz A3, hi]; exact fun q => q.elim hn (fun q => absurd hl (Nat.not_lt.mpr q))
  obtain ⟨T', h', X', e', Wr', S⟩ := stR X hx hZ eT A1 hj rfl (Sto.ofV A1 A2 O I) (g := mkF m pc Ls (.ref b :: .int j :: .ref a :: st)) rfl rfl (hb hby hd)
  rw [hi] at Wr'
  have R' : Ro Z h' a D cA (vs.set i (.ref b)) := ⟨_, A1.same Wr', by simpa [Cell.setSlot] using A2, by subst A3; simp [Cell.setSlot]⟩
  obtain ⟨u, o, h1, h2⟩ := K h' Wr' R' (Old.wr (n0 := Z.heap.size) ⟨rfl, hE⟩ Wr' (hos a ha).1).2 vm0 k0 T' _ hS (by rw [Wr'.size]; exact hk0) (H.trans (CHr.wr Wr' (hos a ha).2.1 H.1)) (hos.wr Wr' (hos a ha).2.1 H.1) X' e' (Fr.snoc X' N (hos a ha).1)
  exact ⟨u, o, S _ h1, h2⟩
theorem Walk.castore (C : Walk W l Z a0 tb EL own code ml rt nm R Q ou) (pc' : Nat) {a : Addr} {vs : List Value} {j x : Int32} (i : Nat) (x' : Int32) (hd : decode code pc = .ok (.castore, 1)) (hp : pc' = pc + 1) (A : Al Z h a .char vs) (ha : a ∈ os) (hn : ¬ j < 0) (hi : j.toNatClampNeg = i) (hl : i < vs.length) (hx' : nar .char x = x')
    (K : ∀ h', Wr h h' a i (.int x') → Al Z h' a .char (vs.set i (.int x')) → W h' os k n pc' Ls st) : W h os k n pc Ls (.int x :: .int j :: .ref a :: st) := by
  obtain ⟨p, e, s, m, args, below, meth, c, rfl, hx, hby, hml, hown0, hrt', hlk, hZ0, hnm, hw, hEL⟩ := C
  intro hE vm0 k0 T locs hS hk0 H hos X eT N
  have hZ : Z.Warmed39 (s.setVm vm0).vm := State.Warmed39.trans hZ0 hS.1
  have hown : (s.setVm vm0).vm.findClass own = some m.cls := by show vm0.findClass own = _; rw [hS.1.alike.findClass]; exact hown0
  subst hp
  have A' := A
  obtain ⟨cl, A1, A3⟩ := A
  have hj : ¬ (j < 0 ∨ cl.slots.size ≤ j.toNatClampNeg) := by rw [list_sz A3, hi]; exact fun q => q.elim hn (fun q => absurd hl (Nat.not_lt.mpr q))
  obtain ⟨T', h', X', e', Wr', S⟩ := stC X hx hZ eT A1 hj (g := mkF m pc Ls (.int x :: .int j :: .ref a :: st)) rfl rfl (hb hby hd)
  rw [hi, hx'] at Wr'
  obtain ⟨u, o, h1, h2⟩ := K h' Wr' (A'.set Wr') (Old.wr (n0 := Z.heap.size) ⟨rfl, hE⟩ Wr' (hos a ha).1).2 vm0 k0 T' _ hS (by rw [Wr'.size]; exact hk0) (H.trans (CHr.wr Wr' (hos a ha).2.1 H.1)) (hos.wr Wr' (hos a ha).2.1 H.1) X' e' (Fr.snoc X' N (hos a ha).1)
  exact ⟨u, o, S _ h1, h2⟩
theorem Walk.bastoreB (C : Walk W l Z a0 tb EL own code ml rt nm R Q ou) (pc' : Nat) {a : Addr} {vs : List Value} {j x : Int32} (i : Nat) (x' : Int32) (hd : decode code pc = .ok (.bastore, 1)) (hp : pc' = pc + 1) (A : Al Z h a .byte vs) (ha : a ∈ os) (hn : ¬ j < 0) (hi : j.toNatClampNeg = i) (hl : i < vs.length) (hx' : nar .byte x = x')
    (K : ∀ h', Wr h h' a i (.int x') → Al Z h' a .byte (vs.set i (.int x')) → W h' os k n pc' Ls st) : W h os k n pc Ls (.int x :: .int j :: .ref a :: st) := by
  obtain ⟨p, e, s, m, args, below, meth, c, rfl, hx, hby, hml, hown0, hrt', hlk, hZ0, hnm, hw, hEL⟩ := C
  intro hE vm0 k0 T locs hS hk0 H hos X eT N
  have hZ : Z.Warmed39 (s.setVm vm0).vm := State.Warmed39.trans hZ0 hS.1
  have hown : (s.setVm vm0).vm.findClass own = some m.cls := by show vm0.findClass own = _; rw [hS.1.alike.findClass]; exact hown0
  subst hp
  have A' := A
  obtain ⟨cl, A1, A3⟩ := A
  have hj : ¬ (j < 0 ∨ cl.slots.size ≤ j.toNatClampNeg) := by rw [list_sz A3, hi]; exact fun q => q.elim hn (fun q => absurd hl (Nat.not_lt.mpr q))
  obtain ⟨T', h', X', e', Wr', S⟩ := stB X hx hZ eT A1 hj (g := mkF m pc Ls (.int x :: .int j :: .ref a :: st)) rfl rfl (hb hby hd)
  rw [hi, hx'] at Wr'
  obtain ⟨u, o, h1, h2⟩ := K h' Wr' (A'.set Wr') (Old.wr (n0 := Z.heap.size) ⟨rfl, hE⟩ Wr' (hos a ha).1).2 vm0 k0 T' _ hS (by rw [Wr'.size]; exact hk0) (H.trans (CHr.wr Wr' (hos a ha).2.1 H.1)) (hos.wr Wr' (hos a ha).2.1 H.1) X' e' (Fr.snoc X' N (hos a ha).1)
  exact ⟨u, o, S _ h1, h2⟩
theorem Walk.bastoreZ (C : Walk W l Z a0 tb EL own code ml rt nm R Q ou) (pc' : Nat) {a : Addr} {vs : List Value} {j x : Int32} (i : Nat) (x' : Int32) (hd : decode code pc = .ok (.bastore, 1)) (hp : pc' = pc + 1) (A : Al Z h a .boolean vs) (ha : a ∈ os) (hn : ¬ j < 0) (hi : j.toNatClampNeg = i) (hl : i < vs.length) (hx' : nar .boolean x = x')
    (K : ∀ h', Wr h h' a i (.int x') → Al Z h' a .boolean (vs.set i (.int x')) → W h' os k n pc' Ls st) : W h os k n pc Ls (.int x :: .int j :: .ref a :: st) := by
  obtain ⟨p, e, s, m, args, below, meth, c, rfl, hx, hby, hml, hown0, hrt', hlk, hZ0, hnm, hw, hEL⟩ := C
  intro hE vm0 k0 T locs hS hk0 H hos X eT N
  have hZ : Z.Warmed39 (s.setVm vm0).vm := State.Warmed39.trans hZ0 hS.1
  have hown : (s.setVm vm0).vm.findClass own = some m.cls := by show vm0.findClass own = _; rw [hS.1.alike.findClass]; exact hown0
  subst hp
  have A' := A
  obtain ⟨cl, A1, A3⟩ := A
  have hj : ¬ (j < 0 ∨ cl.slots.size ≤ j.toNatClampNeg) := by rw [list_sz A3, hi]; exact fun q => q.elim hn (fun q => absurd hl (Nat.not_lt.mpr q))
  obtain ⟨T', h', X', e', Wr', S⟩ := stZ X hx hZ eT A1 hj (g := mkF m pc Ls (.int x :: .int j :: .ref a :: st)) rfl rfl (hb hby hd)
  rw [hi, hx'] at Wr'
  obtain ⟨u, o, h1, h2⟩ := K h' Wr' (A'.set Wr') (Old.wr (n0 := Z.heap.size) ⟨rfl, hE⟩ Wr' (hos a ha).1).2 vm0 k0 T' _ hS (by rw [Wr'.size]; exact hk0) (H.trans (CHr.wr Wr' (hos a ha).2.1 H.1)) (hos.wr Wr' (hos a ha).2.1 H.1) X' e' (Fr.snoc X' N (hos a ha).1)
  exact ⟨u, o, S _ h1, h2⟩
theorem Walk.iastore (C : Walk W l Z a0 tb EL own code ml rt nm R Q ou) (pc' : Nat) {a : Addr} {vs : List Value} {j x : Int32} (i : Nat) (hd : decode code pc = .ok (.iastore, 1)) (hp : pc' = pc + 1) (A : Al Z h a .int vs) (ha : a ∈ os) (hn : ¬ j < 0) (hi : j.toNatClampNeg = i) (hl : i < vs.length)
    (K : ∀ h', Wr h h' a i (.int x) → Al Z h' a .int (vs.set i (.int x)) → W h' os k n pc' Ls st) : W h os k n pc Ls (.int x :: .int j :: .ref a :: st) := by
  obtain ⟨p, e, s, m, args, below, meth, c, rfl, hx, hby, hml, hown0, hrt', hlk, hZ0, hnm, hw, hEL⟩ := C
  intro hE vm0 k0 T locs hS hk0 H hos X eT N
  have hZ : Z.Warmed39 (s.setVm vm0).vm := State.Warmed39.trans hZ0 hS.1
  have hown : (s.setVm vm0).vm.findClass own = some m.cls := by show vm0.findClass own = _; rw [hS.1.alike.findClass]; exact hown0
  subst hp
  have A' := A
  obtain ⟨cl, A1, A3⟩ := A
  have hj : ¬ (j < 0 ∨ cl.slots.size ≤ j.toNatClampNeg) := by rw [list_sz A3, hi]; exact fun q => q.elim hn (fun q => absurd hl (Nat.not_lt.mpr q))
  obtain ⟨T', h', X', e', Wr', S⟩ := stI X hx hZ eT A1 hj (g := mkF m pc Ls (.int x :: .int j :: .ref a :: st)) rfl rfl (hb hby hd)
  rw [hi] at Wr'
  obtain ⟨u, o, h1, h2⟩ := K h' Wr' (A'.set Wr') (Old.wr (n0 := Z.heap.size) ⟨rfl, hE⟩ Wr' (hos a ha).1).2 vm0 k0 T' _ hS (by rw [Wr'.size]; exact hk0) (H.trans (CHr.wr Wr' (hos a ha).2.1 H.1)) (hos.wr Wr' (hos a ha).2.1 H.1) X' e' (Fr.snoc X' N (hos a ha).1)
  exact ⟨u, o, S _ h1, h2⟩
theorem Walk.iaload (C : Walk W l Z a0 tb EL own code ml rt nm R Q ou) (pc' : Nat) {a : Addr} {vs : List Value} {j : Int32} (i : Nat) (v : Value) (hd : decode code pc = .ok (.iaload, 1)) (hp : pc' = pc + 1) (A : Al Z h a .int vs) (hn : ¬ j < 0) (hi : j.toNatClampNeg = i) (hv : vs[i]? = some v)
    (K : W h os k n pc' Ls (v :: st)) : W h os k n pc Ls (.int j :: .ref a :: st) := by
  obtain ⟨p, e, s, m, args, below, meth, c, rfl, hx, hby, hml, hown0, hrt', hlk, hZ0, hnm, hw, hEL⟩ := C
  intro hE vm0 k0 T locs hS hk0 H hos X eT N
  have hZ : Z.Warmed39 (s.setVm vm0).vm := State.Warmed39.trans hZ0 hS.1
  have hown : (s.setVm vm0).vm.findClass own = some m.cls := by show vm0.findClass own = _; rw [hS.1.alike.findClass]; exact hown0
  subst hp
  obtain ⟨cl, A1, A3⟩ := A
  have hl : i < vs.length := (List.getElem?_eq_some_iff.mp hv).1
  have hj : ¬ (j < 0 ∨ cl.slots.size ≤ j.toNatClampNeg) := by rw [list_sz A3, hi]; exact fun q => q.elim hn (fun q => absurd hl (Nat.not_lt.mpr q))
  obtain ⟨u, o, h1, h2⟩ := K hE vm0 k0 T _ hS hk0 H hos X eT N
  exact ⟨u, o, X.iaload hx (by rw [eT]; exact A1.1) (State.isArrayOf_alike hZ.alike A1.2.1) A1.2.2 hj (by rw [hi, list_at A3]; exact hv) (g := mkF m pc Ls (.int j :: .ref a :: st)) rfl rfl (hb hby hd) _ h1, h2⟩
theorem Walk.caload (C : Walk W l Z a0 tb EL own code ml rt nm R Q ou) (pc' : Nat) {a : Addr} {vs : List Value} {j : Int32} (i : Nat) (v : Value) (hd : decode code pc = .ok (.caload, 1)) (hp : pc' = pc + 1) (A : Al Z h a .char vs) (hn : ¬ j < 0) (hi : j.toNatClampNeg = i) (hv : vs[i]? = some v)
    (K : W h os k n pc' Ls (v :: st)) : W h os k n pc Ls (.int j :: .ref a :: st) := by
  obtain ⟨p, e, s, m, args, below, meth, c, rfl, hx, hby, hml, hown0, hrt', hlk, hZ0, hnm, hw, hEL⟩ := C
  intro hE vm0 k0 T locs hS hk0 H hos X eT N
  have hZ : Z.Warmed39 (s.setVm vm0).vm := State.Warmed39.trans hZ0 hS.1
  have hown : (s.setVm vm0).vm.findClass own = some m.cls := by show vm0.findClass own = _; rw [hS.1.alike.findClass]; exact hown0
  subst hp
  obtain ⟨cl, A1, A3⟩ := A
  have hl : i < vs.length := (List.getElem?_eq_some_iff.mp hv).1
  have hj : ¬ (j < 0 ∨ cl.slots.size ≤ j.toNatClampNeg) := by rw [list_sz A3, hi]; exact fun q => q.elim hn (fun q => absurd hl (Nat.not_lt.mpr q))
  obtain ⟨u, o, h1, h2⟩ := K hE vm0 k0 T _ hS hk0 H hos X eT N
  exact ⟨u, o, X.caload hx (by rw [eT]; exact A1.1) (State.isArrayOf_alike hZ.alike A1.2.1) A1.2.2 hj (by rw [hi, list_at A3]; exact hv) (g := mkF m pc Ls (.int j :: .ref a :: st)) rfl rfl (hb hby hd) _ h1, h2⟩
theorem Walk.baloadB (C : Walk W l Z a0 tb EL own code ml rt nm R Q ou) (pc' : Nat) {a : Addr} {vs : List Value} {j : Int32} (i : Nat) (v : Value) (hd : decode code pc = .ok (.baload, 1)) (hp : pc' = pc + 1) (A : Al Z h a .byte vs) (hn : ¬ j < 0) (hi : j.toNatClampNeg = i) (hv : vs[i]? = some v)
    (K : W h os k n pc' Ls (v :: st)) : W h os k n pc Ls (.int j :: .ref a :: st) := by
  obtain ⟨p, e, s, m, args, below, meth, c, rfl, hx, hby, hml, hown0, hrt', hlk, hZ0, hnm, hw, hEL⟩ := C
  intro hE vm0 k0 T locs hS hk0 H hos X eT N
  have hZ : Z.Warmed39 (s.setVm vm0).vm := State.Warmed39.trans hZ0 hS.1
  have hown : (s.setVm vm0).vm.findClass own = some m.cls := by show vm0.findClass own = _; rw [hS.1.alike.findClass]; exact hown0
  subst hp
  obtain ⟨cl, A1, A3⟩ := A
  have hl : i < vs.length := (List.getElem?_eq_some_iff.mp hv).1
  have hj : ¬ (j < 0 ∨ cl.slots.size ≤ j.toNatClampNeg) := by rw [list_sz A3, hi]; exact fun q => q.elim hn (fun q => absurd hl (Nat.not_lt.mpr q))
  obtain ⟨u, o, h1, h2⟩ := K hE vm0 k0 T _ hS hk0 H hos X eT N
  exact ⟨u, o, X.baloadBytes hx (by rw [eT]; exact A1.1) (State.isArrayOf_alike hZ.alike A1.2.1) A1.2.2 hj (by rw [hi, list_at A3]; exact hv) (g := mkF m pc Ls (.int j :: .ref a :: st)) rfl rfl (hb hby hd) _ h1, h2⟩
theorem Walk.baloadZ (C : Walk W l Z a0 tb EL own code ml rt nm R Q ou) (pc' : Nat) {a : Addr} {vs : List Value} {j : Int32} (i : Nat) (v : Value) (hd : decode code pc = .ok (.baload, 1)) (hp : pc' = pc + 1) (A : Al Z h a .boolean vs) (hn : ¬ j < 0) (hi : j.toNatClampNeg = i) (hv : vs[i]? = some v)
    (K : W h os k n pc' Ls (v :: st)) : W h os k n pc Ls (.int j :: .ref a :: st) := by
  obtain ⟨p, e, s, m, args, below, meth, c, rfl, hx, hby, hml, hown0, hrt', hlk, hZ0, hnm, hw, hEL⟩ := C
  intro hE vm0 k0 T locs hS hk0 H hos X eT N
  have hZ : Z.Warmed39 (s.setVm vm0).vm := State.Warmed39.trans hZ0 hS.1
  have hown : (s.setVm vm0).vm.findClass own = some m.cls := by show vm0.findClass own = _; rw [hS.1.alike.findClass]; exact hown0
  subst hp
  obtain ⟨cl, A1, A3⟩ := A
  have hl : i < vs.length := (List.getElem?_eq_some_iff.mp hv).1
  have hj : ¬ (j < 0 ∨ cl.slots.size ≤ j.toNatClampNeg) := by rw [list_sz A3, hi]; exact fun q => q.elim hn (fun q => absurd hl (Nat.not_lt.mpr q))
  obtain ⟨u, o, h1, h2⟩ := K hE vm0 k0 T _ hS hk0 H hos X eT N
  exact ⟨u, o, X.baloadBooleans hx (by rw [eT]; exact A1.1) (State.isArrayOf_alike hZ.alike A1.2.1) A1.2.2 hj (by rw [hi, list_at A3]; exact hv) (g := mkF m pc Ls (.int j :: .ref a :: st)) rfl rfl (hb hby hd) _ h1, h2⟩
theorem Walk.aaload (C : Walk W l Z a0 tb EL own code ml rt nm R Q ou) (pc' : Nat) {a : Addr} {D : String} {cA : ClassId} {vs : List Value} {j : Int32} (i : Nat) (v : Value) (hd : decode code pc = .ok (.aaload, 1)) (hp : pc' = pc + 1) (A : Ro Z h a D cA vs) (hn : ¬ j < 0) (hi : j.toNatClampNeg = i) (hv : vs[i]? = some v)
    (K : W h os k n pc' Ls (v :: st)) : W h os k n pc Ls (.int j :: .ref a :: st) := by
  obtain ⟨p, e, s, m, args, below, meth, c, rfl, hx, hby, hml, hown0, hrt', hlk, hZ0, hnm, hw, hEL⟩ := C
  intro hE vm0 k0 T locs hS hk0 H hos X eT N
  have hZ : Z.Warmed39 (s.setVm vm0).vm := State.Warmed39.trans hZ0 hS.1
  have hown : (s.setVm vm0).vm.findClass own = some m.cls := by show vm0.findClass own = _; rw [hS.1.alike.findClass]; exact hown0
  subst hp
  obtain ⟨cl, A1, A2, A3⟩ := A
  have hl : i < vs.length := (List.getElem?_eq_some_iff.mp hv).1
  have hj : ¬ (j < 0 ∨ cl.slots.size ≤ j.toNatClampNeg) := by rw [list_sz A3, hi]; exact fun q => q.elim hn (fun q => absurd hl (Nat.not_lt.mpr q))
  obtain ⟨u, o, h1, h2⟩ := K hE vm0 k0 T _ hS hk0 H hos X eT N
  exact ⟨u, o, X.aaload hx (by rw [eT]; exact A1.1) (State.isArrayOf_alike hZ.alike A1.2.1) rfl A1.2.2 hj (by rw [hi, list_at A3]; exact hv) (g := mkF m pc Ls (.int j :: .ref a :: st)) rfl rfl (hb hby hd) _ h1, h2⟩
theorem Walk.arraylength (C : Walk W l Z a0 tb EL own code ml rt nm R Q ou) (pc' : Nat) {a : Addr} {ty : FieldType} {vs : List Value} (z : Int32) (hd : decode code pc = .ok (.arraylength, 1)) (hp : pc' = pc + 1) (A : Al Z h a ty vs) (hz : vs.length.toInt32 = z)
    (K : W h os k n pc' Ls (.int z :: st)) : W h os k n pc Ls (.ref a :: st) := by
  obtain ⟨p, e, s, m, args, below, meth, c, rfl, hx, hby, hml, hown0, hrt', hlk, hZ0, hnm, hw, hEL⟩ := C
  intro hE vm0 k0 T locs hS hk0 H hos X eT N
  have hZ : Z.Warmed39 (s.setVm vm0).vm := State.Warmed39.trans hZ0 hS.1
  have hown : (s.setVm vm0).vm.findClass own = some m.cls := by show vm0.findClass own = _; rw [hS.1.alike.findClass]; exact hown0
  subst hp
  obtain ⟨cl, A1, A3⟩ := A
  obtain ⟨u, o, h1, h2⟩ := K hE vm0 k0 T _ hS hk0 H hos X eT N
  rw [← hz, ← list_sz A3] at h1
  exact ⟨u, o, X.arraylength hx (by rw [eT]; exact A1.1) (State.isArrayOf_alike hZ.alike A1.2.1) (g := mkF m pc Ls (.ref a :: st)) rfl rfl (hb hby hd) _ h1, h2⟩
/-! objects, calls -/
theorem Walk.new (C : Walk W l Z a0 tb EL own code ml rt nm R Q ou) (pc' : Nat) {idx sz : Nat} {D : String} (hd : decode code pc = .ok (.new idx, 3)) (hp : pc' = pc + 3) (w : Jvm.Cond.classLink own idx D ∈ tb) (wi : Jvm.Cond.instantiable D sz ∈ tb) (wz : Jvm.Cond.initialized D ∈ tb) (hc : k + 1 ≤ R.cells) (hl : n + sz ≤ R.slots)
    (K : ∀ h', Ext h h' → Exa Z h' h.size D → (∀ {O f d : String} {ty : FieldType}, Laid Z a0 D O f d → parseFieldDescriptor d = some ty → Fld Z h' h.size O f d (defaultValue ty)) → W h' (h.size :: os) (k + 1) (n + sz) pc' Ls (.ref h.size :: st)) : W h os k n pc Ls st := by
  obtain ⟨p, e, s, m, args, below, meth, c, rfl, hx, hby, hml, hown0, hrt', hlk, hZ0, hnm, hw, hEL⟩ := C
  intro hE vm0 k0 T locs hS hk0 H hos X eT N
  have hZ : Z.Warmed39 (s.setVm vm0).vm := State.Warmed39.trans hZ0 hS.1
  have hown : (s.setVm vm0).vm.findClass own = some m.cls := by show vm0.findClass own = _; rw [hS.1.alike.findClass]; exact hown0
  subst hp
  obtain ⟨T', h', X', e', E', A', D', -, S⟩ := newO X hx hZ hown (hw _ w) (hw _ wi) (hw _ wz) eT (g := mkF m pc Ls st) rfl (hb hby hd) hc hl
  obtain ⟨u, o, h1, h2⟩ := K h' E' A' D' (Old.ext (n0 := Z.heap.size) ⟨rfl, hE⟩ E').2 vm0 k0 T' _ hS (Nat.le_trans hk0 E'.1) (H.trans (CHr.ext E' H.1)) (hos.made E' H.1 hE.1 A'.lt) X' e' N
  exact ⟨u, o, S _ h1, h2⟩
theorem Walk.initObj (C : Walk W l Z a0 tb EL own code ml rt nm R Q ou) (pc' : Nat) {idx : Nat} {a : Addr} (wd : Nat) (hd : decode code pc = .ok (.invokespecial idx, 3)) (hp : pc' = pc + 3) (w1 : Jvm.Cond.methodLink own idx Lib.objectInit ∈ tb) (w2 : Jvm.Cond.instanceMethod Lib.objectInit ∈ tb) (w3 : Jvm.Cond.code Lib.objectInit ⟨#[0xb1]⟩ 1 none ∈ tb) (hls : Ls.size = ml) (hf : 1 ≤ R.frames) (hwd : (st.map fun v => v.category).sum ≤ wd) (hl : wd + 12 ≤ R.locals)
    (K : W h os k n pc' Ls st) : W h os k n pc Ls (.ref a :: st) := by
  obtain ⟨p, e, s, m, args, below, meth, c, rfl, hx, hby, hml, hown0, hrt', hlk, hZ0, hnm, hw, hEL⟩ := C
  intro hE vm0 k0 T locs hS hk0 H hos X eT N
  have hZ : Z.Warmed39 (s.setVm vm0).vm := State.Warmed39.trans hZ0 hS.1
  have hown : (s.setVm vm0).vm.findClass own = some m.cls := by show vm0.findClass own = _; rw [hS.1.alike.findClass]; exact hown0
  subst hp
  obtain ⟨T', X', e', S⟩ := initO X hx hZ hown (hw _ w1) (hw _ w2) (hw _ w3) eT (g := mkF m pc Ls (.ref a :: st)) rfl (by show Ls.size = _; rw [hls, hml]) rfl (hb hby hd) hf (W := wd) (by show 2 * 0 + _ ≤ _; omega) hl
  obtain ⟨u, o, h1, h2⟩ := K hE vm0 k0 T' _ hS hk0 H hos X' e' N
  exact ⟨u, o, S _ h1, h2⟩
theorem Walk.checkcast (C : Walk W l Z a0 tb EL own code ml rt nm R Q ou) (pc' : Nat) {idx : Nat} {D : String} {a : Addr} (hd : decode code pc = .ok (.checkcast idx, 3)) (hp : pc' = pc + 3) (w : Jvm.Cond.classLink own idx D ∈ tb) (I : Ins Z h a D true) (K : W h os k n pc' Ls (.ref a :: st)) : W h os k n pc Ls (.ref a :: st) := by
  obtain ⟨p, e, s, m, args, below, meth, c, rfl, hx, hby, hml, hown0, hrt', hlk, hZ0, hnm, hw, hEL⟩ := C
  intro hE vm0 k0 T locs hS hk0 H hos X eT N
  have hZ : Z.Warmed39 (s.setVm vm0).vm := State.Warmed39.trans hZ0 hS.1
  have hown : (s.setVm vm0).vm.findClass own = some m.cls := by show vm0.findClass own = _; rw [hS.1.alike.findClass]; exact hown0
  subst hp
  obtain ⟨T', X', e', S⟩ := castY X hx hZ hown (hw _ w) eT I (g := mkF m pc Ls (.ref a :: st)) rfl rfl (hb hby hd)
  obtain ⟨u, o, h1, h2⟩ := K hE vm0 k0 T' _ hS hk0 H hos X' e' N
  exact ⟨u, o, S _ h1, h2⟩
theorem Walk.callS (C : Walk W l Z a0 tb EL own code ml rt nm R Q ou) (pc' : Nat) {idx : Nat} {y : MethodName} {yc : ByteArray} {ym : Nat} {yr : Option FieldType} {rm : Room} {as : List Value} {rest : List Value} {yQ : Option Value → Heap → Prop} {you : Option Value → List Addr} {os' : List Addr} {ps : List FieldType} {r : Option FieldType} (wd : Nat) (hd : decode code pc = .ok (.invokestatic idx, 3)) (hp : pc' = pc + 3) (w1 : Jvm.Cond.methodLink own idx y ∈ tb) (w2 : Jvm.Cond.static y ∈ tb) (w3 : Jvm.Cond.initialized y.cls ∈ tb) (w4 : Jvm.Cond.code y yc ym yr ∈ tb) (hy : y.cls ≠ "java/lang/invoke/MethodHandle" ∧ y.cls ≠ "java/lang/invoke/VarHandle") (con : Con l Z EL y yc ym yr rm as.toArray h os' yQ you) (hos' : ∀ x ∈ os', x ∈ os) (pd : parseMethodDescriptor y.desc = some ⟨ps, r⟩) (hlen : as.length = ps.length) (hls : Ls.size = ml) (hwd : (rest.map fun v => v.category).sum ≤ wd) (hf : rm.frames + 1 ≤ R.frames) (hl : wd + (ym + 11) + rm.locals ≤ R.locals) (hc : k + rm.cells ≤ R.cells) (hs : n + rm.slots ≤ R.slots) (hst : st = as.reverse ++ rest)
    (K : ∀ v h', yQ v h' → W h' (you v ++ os) (k + rm.cells) (n + rm.slots) pc' Ls (v.toList ++ rest)) : W h os k n pc Ls st := by
  obtain ⟨p, e, s, m, args, below, meth, c, rfl, hx, hby, hml, hown0, hrt', hlk, hZ0, hnm, hw, hEL⟩ := C
  intro hE vm0 k0 T locs hS hk0 H hos X eT N
  have hZ : Z.Warmed39 (s.setVm vm0).vm := State.Warmed39.trans hZ0 hS.1
  have hown : (s.setVm vm0).vm.findClass own = some m.cls := by show vm0.findClass own = _; rw [hS.1.alike.findClass]; exact hown0
  subst hp
  obtain ⟨v, vm₁, ⟨T', L', k', n'⟩, -, X', hS', hgr, P, S⟩ := callSS X hx (y := y) hown (mvT hZ (hw _ w1)) (mvT hZ (hw _ w2)) (mvT hZ (hw _ w3)) (mvT hZ (hw _ w4)) hy (paid (vm0 := vm0) (wd := wd) con hE hZ (hw _ w4) (hw _ w3) hf hl hEL H.1 (hos.sub hos')) (g := mkF m pc Ls st) rfl (by show Ls.size = _; rw [hls, hml]) (argsL := as) (rest := rest) (lenOf pd hlen) hst (by show 2 * 0 + _ ≤ _; omega) (hb hby hd) (fun _ _ => ⟨rfl, eT, hc, hs⟩)
  obtain ⟨Lc, ⟨hq, hE', hN⟩, l', y', z', hC, hO⟩ := P
  dsimp only [Pt.U, Pt.locs, Pt.cells, Pt.slots] at X' l' y' z' S hq hE' hS' hgr hC hO
  subst l' y' z'
  obtain ⟨u, o, h1, h2⟩ := K v T'.heap hq hE' T'.vm T'.heap.size T' _ (hS.trans hS' (Nat.le_trans hk0 (eT ▸ hgr))) (Nat.le_refl _) (H.trans hC) (hO.app (hos.on hC)) X' rfl (Fr.app N hN)
  exact ⟨u, o, S.trans h1, h2⟩
theorem Walk.callV (C : Walk W l Z a0 tb EL own code ml rt nm R Q ou) (pc' : Nat) {idx : Nat} {a : Addr} {D : String} {x : MethodName} {y : MethodName} {yc : ByteArray} {ym : Nat} {yr : Option FieldType} {rm : Room} {as : List Value} {rest : List Value} {yQ : Option Value → Heap → Prop} {you : Option Value → List Addr} {os' : List Addr} {ps : List FieldType} {r : Option FieldType} (wd : Nat) (hd : decode code pc = .ok (.invokevirtual idx, 3)) (hp : pc' = pc + 3) (w1 : Jvm.Cond.methodLink own idx x ∈ tb) (w2 : Jvm.Cond.declares x ∈ tb) (w5 : Jvm.Cond.selects D x y ∈ tb) (nf : ∀ args s, (∀ d ∈ tb, d.before a0 Z = true) → Z.Warmed39 s.vm → (Jvm.Cond.selects D x y).before args s = true → NotFace s x) (w6 : Jvm.Cond.instanceMethod y ∈ tb) (w3 : Jvm.Cond.initialized y.cls ∈ tb) (w4 : Jvm.Cond.code y yc ym yr ∈ tb) (hy : x.cls ≠ "java/lang/invoke/MethodHandle" ∧ x.cls ≠ "java/lang/invoke/VarHandle") (E : Exa Z h a D) (con : Con l Z EL y yc ym yr rm (.ref a :: as).toArray h os' yQ you) (hos' : ∀ x ∈ os', x ∈ os) (pd : parseMethodDescriptor x.desc = some ⟨ps, r⟩) (hlen : as.length = ps.length) (hls : Ls.size = ml) (hwd : (rest.map fun v => v.category).sum ≤ wd) (hf : rm.frames + 1 ≤ R.frames) (hl : wd + (ym + 11) + rm.locals ≤ R.locals) (hc : k + rm.cells ≤ R.cells) (hs : n + rm.slots ≤ R.slots) (hst : st = as.reverse ++ .ref a :: rest)
    (K : ∀ v h', yQ v h' → W h' (you v ++ os) (k + rm.cells) (n + rm.slots) pc' Ls (v.toList ++ rest)) : W h os k n pc Ls st := by
  obtain ⟨p, e, s, m, args, below, meth, c, rfl, hx, hby, hml, hown0, hrt', hlk, hZ0, hnm, hw, hEL⟩ := C
  intro hE vm0 k0 T locs hS hk0 H hos X eT N
  have hZ : Z.Warmed39 (s.setVm vm0).vm := State.Warmed39.trans hZ0 hS.1
  have hown : (s.setVm vm0).vm.findClass own = some m.cls := by show vm0.findClass own = _; rw [hS.1.alike.findClass]; exact hown0
  subst hp
  obtain ⟨cq, kq, q1, q2, q3⟩ := isOf (T := T) hZ eT E
  obtain ⟨v, vm₁, ⟨T', L', k', n'⟩, -, X', hS', hgr, P, S⟩ := X.virtualBackS hx (y := x) (z := y) hown (mvT hZ (hw _ w1)) (mvT hZ (hw _ w2)) (nf args (s.setVm vm0) hw hZ (mvT hZ (hw _ w5))) (mvT hZ (hw _ w5)) (mvT hZ (hw _ w6)) hy (paid (vm0 := vm0) (wd := wd) con hE hZ (hw _ w4) (hw _ w3) hf hl hEL H.1 (hos.sub hos')) q1 q3 (g := mkF m pc Ls st) rfl (by show Ls.size = _; rw [hls, hml]) (Steps.refl _) (argsL := as) (rest := rest) (lenOf pd hlen) hst (by show 2 * 0 + _ ≤ _; omega) (hb hby hd) (fun _ _ => ⟨rfl, eT, hc, hs⟩)
  obtain ⟨Lc, ⟨hq, hE', hN⟩, l', y', z', hC, hO⟩ := P
  dsimp only [Pt.U, Pt.locs, Pt.cells, Pt.slots] at X' l' y' z' S hq hE' hS' hgr hC hO
  subst l' y' z'
  obtain ⟨u, o, h1, h2⟩ := K v T'.heap hq hE' T'.vm T'.heap.size T' _ (hS.trans hS' (Nat.le_trans hk0 (eT ▸ hgr))) (Nat.le_refl _) (H.trans hC) (hO.app (hos.on hC)) X' rfl (Fr.app N hN)
  exact ⟨u, o, S.trans h1, h2⟩
theorem nfSelf {x : MethodName} {D : String} : ∀ args s, (∀ d ∈ tb, d.before a0 Z = true) → Z.Warmed39 s.vm → (Jvm.Cond.selects D x x).before args s = true → NotFace s x := fun _ _ _ _ q => notFace_of_selects q
theorem Walk.callI (C : Walk W l Z a0 tb EL own code ml rt nm R Q ou) (pc' : Nat) {idx : Nat} {a : Addr} {y : MethodName} {yc : ByteArray} {ym : Nat} {yr : Option FieldType} {rm : Room} {as : List Value} {rest : List Value} {yQ : Option Value → Heap → Prop} {you : Option Value → List Addr} {os' : List Addr} {ps : List FieldType} {r : Option FieldType} (wd : Nat) (hd : decode code pc = .ok (.invokespecial idx, 3)) (hp : pc' = pc + 3) (hy1 : y.name = "<init>") (hyr : yr = none) (w1 : Jvm.Cond.methodLink own idx y ∈ tb) (w6 : Jvm.Cond.instanceMethod y ∈ tb) (w3 : Jvm.Cond.initialized y.cls ∈ tb) (w4 : Jvm.Cond.code y yc ym yr ∈ tb) (hy : y.cls ≠ "java/lang/invoke/MethodHandle" ∧ y.cls ≠ "java/lang/invoke/VarHandle") (con : Con l Z EL y yc ym yr rm (.ref a :: as).toArray h os' yQ you) (hos' : ∀ x ∈ os', x ∈ os) (pd : parseMethodDescriptor y.desc = some ⟨ps, r⟩) (hlen : as.length = ps.length) (hls : Ls.size = ml) (hwd : (rest.map fun v => v.category).sum ≤ wd) (hf : rm.frames + 1 ≤ R.frames) (hl : wd + (ym + 11) + rm.locals ≤ R.locals) (hc : k + rm.cells ≤ R.cells) (hs : n + rm.slots ≤ R.slots) (hst : st = as.reverse ++ .ref a :: rest)
    (K : ∀ v h', yQ v h' → W h' (you v ++ os) (k + rm.cells) (n + rm.slots) pc' Ls (v.toList ++ rest)) : W h os k n pc Ls st := by
  obtain ⟨p, e, s, m, args, below, meth, c, rfl, hx, hby, hml, hown0, hrt', hlk, hZ0, hnm, hw, hEL⟩ := C
  intro hE vm0 k0 T locs hS hk0 H hos X eT N
  have hZ : Z.Warmed39 (s.setVm vm0).vm := State.Warmed39.trans hZ0 hS.1
  have hown : (s.setVm vm0).vm.findClass own = some m.cls := by show vm0.findClass own = _; rw [hS.1.alike.findClass]; exact hown0
  subst hp
  subst hyr
  obtain ⟨v, vm₁, ⟨T', L', k', n'⟩, -, X', hS', hgr, P, S⟩ := X.specialBackS hx (y := y) hy1 hown (mvT hZ (hw _ w1)) (mvT hZ (hw _ w6)) (mvT hZ (hw _ w4)) hy (paid (vm0 := vm0) (wd := wd) con hE hZ (hw _ w4) (hw _ w3) hf hl hEL H.1 (hos.sub hos')) (g := mkF m pc Ls st) rfl (by show Ls.size = _; rw [hls, hml]) (Steps.refl _) (a := a) (argsL := as) (rest := rest) (lenOf pd hlen) hst (by show 2 * 0 + _ ≤ _; omega) (hb hby hd) (fun _ _ => ⟨rfl, eT, hc, hs⟩)
  obtain ⟨Lc, ⟨hq, hE', hN⟩, l', y', z', hC, hO⟩ := P
  dsimp only [Pt.U, Pt.locs, Pt.cells, Pt.slots] at X' l' y' z' S hq hE' hS' hgr hC hO
  subst l' y' z'
  obtain ⟨u, o, h1, h2⟩ := K v T'.heap hq hE' T'.vm T'.heap.size T' _ (hS.trans hS' (Nat.le_trans hk0 (eT ▸ hgr))) (Nat.le_refl _) (H.trans hC) (hO.app (hos.on hC)) X' rfl (Fr.app N hN)
  exact ⟨u, o, S.trans h1, h2⟩
theorem Walk.callP (C : Walk W l Z a0 tb EL own code ml rt nm R Q ou) (pc' : Nat) {idx : Nat} {a : Addr} {D : String} {y : MethodName} {yc : ByteArray} {ym : Nat} {yr : Option FieldType} {rm : Room} {as : List Value} {rest : List Value} {yQ : Option Value → Heap → Prop} {you : Option Value → List Addr} {os' : List Addr} {ps : List FieldType} {r : Option FieldType} (wd : Nat) (hd : decode code pc = .ok (.invokevirtual idx, 3)) (hp : pc' = pc + 3) (w1 : Jvm.Cond.methodLink own idx y ∈ tb) (w5 : Jvm.Cond.selects y.cls y y ∈ tb) (w7 : Jvm.Cond.privateMethod y ∈ tb) (w6 : Jvm.Cond.instanceMethod y ∈ tb) (w3 : Jvm.Cond.initialized y.cls ∈ tb) (w4 : Jvm.Cond.code y yc ym yr ∈ tb) (hy : y.cls ≠ "java/lang/invoke/MethodHandle" ∧ y.cls ≠ "java/lang/invoke/VarHandle") (E : Exa Z h a D) (con : Con l Z EL y yc ym yr rm (.ref a :: as).toArray h os' yQ you) (hos' : ∀ x ∈ os', x ∈ os) (pd : parseMethodDescriptor y.desc = some ⟨ps, r⟩) (hlen : as.length = ps.length) (hls : Ls.size = ml) (hwd : (rest.map fun v => v.category).sum ≤ wd) (hf : rm.frames + 1 ≤ R.frames) (hl : wd + (ym + 11) + rm.locals ≤ R.locals) (hc : k + rm.cells ≤ R.cells) (hs : n + rm.slots ≤ R.slots) (hst : st = as.reverse ++ .ref a :: rest)
    (K : ∀ v h', yQ v h' → W h' (you v ++ os) (k + rm.cells) (n + rm.slots) pc' Ls (v.toList ++ rest)) : W h os k n pc Ls st := by
  obtain ⟨p, e, s, m, args, below, meth, c, rfl, hx, hby, hml, hown0, hrt', hlk, hZ0, hnm, hw, hEL⟩ := C
  intro hE vm0 k0 T locs hS hk0 H hos X eT N
  have hZ : Z.Warmed39 (s.setVm vm0).vm := State.Warmed39.trans hZ0 hS.1
  have hown : (s.setVm vm0).vm.findClass own = some m.cls := by show vm0.findClass own = _; rw [hS.1.alike.findClass]; exact hown0
  subst hp
  obtain ⟨cell, hcl, hob⟩ := E.cell
  obtain ⟨v, vm₁, ⟨T', L', k', n'⟩, -, X', hS', hgr, P, S⟩ := X.privateBackS hx (y := y) hown (mvT hZ (hw _ w1)) (mvT hZ (hw _ w6)) (mvT hZ (hw _ w5)) (Cond.privateMethod_at (mvP (s := s.setVm vm0) (args := args) hZ (hw _ w7))) (mvT hZ (hw _ w4)) hy (paid (vm0 := vm0) (wd := wd) con hE hZ (hw _ w4) (hw _ w3) hf hl hEL H.1 (hos.sub hos')) (g := mkF m pc Ls st) rfl (by show Ls.size = _; rw [hls, hml]) (Steps.refl _) (a := a) (by rw [eT]; exact hcl) hob (argsL := as) (rest := rest) (lenOf pd hlen) hst (by show 2 * 0 + _ ≤ _; omega) (hb hby hd) (fun _ _ => ⟨rfl, eT, hc, hs⟩)
  obtain ⟨Lc, ⟨hq, hE', hN⟩, l', y', z', hC, hO⟩ := P
  dsimp only [Pt.U, Pt.locs, Pt.cells, Pt.slots] at X' l' y' z' S hq hE' hS' hgr hC hO
  subst l' y' z'
  obtain ⟨u, o, h1, h2⟩ := K v T'.heap hq hE' T'.vm T'.heap.size T' _ (hS.trans hS' (Nat.le_trans hk0 (eT ▸ hgr))) (Nat.le_refl _) (H.trans hC) (hO.app (hos.on hC)) X' rfl (Fr.app N hN)
  exact ⟨u, o, S.trans h1, h2⟩
theorem Walk.callF (C : Walk W l Z a0 tb EL own code ml rt nm R Q ou) (pc' : Nat) {idx cnt : Nat} {a : Addr} {D : String} {x : MethodName} {y : MethodName} {yc : ByteArray} {ym : Nat} {yr : Option FieldType} {rm : Room} {as : List Value} {rest : List Value} {yQ : Option Value → Heap → Prop} {you : Option Value → List Addr} {os' : List Addr} {ps : List FieldType} {r : Option FieldType} (wd : Nat) (hd : decode code pc = .ok (.invokeinterface idx cnt, 5)) (hp : pc' = pc + 5) (w1 : Jvm.Cond.methodLink own idx x ∈ tb) (w2 : Jvm.Cond.declares x ∈ tb) (w7 : Jvm.Cond.interfaceMethod x.cls x.cls x.name x.desc ∈ tb) (w5 : Jvm.Cond.selects D x y ∈ tb) (w6 : Jvm.Cond.instanceMethod y ∈ tb) (w8 : Jvm.Cond.publicMethod y ∈ tb) (w9 : Jvm.Cond.unhidden D x.name x.desc ∈ tb) (w10 : Jvm.Cond.castable D x.cls ∈ tb) (hI : ((Jvm.Cond.interfaceMethod x.cls x.cls x.name x.desc).onTables && (Jvm.Cond.interfaceMethod x.cls x.cls x.name x.desc).keepsFace) = true) (w3 : Jvm.Cond.initialized y.cls ∈ tb) (w4 : Jvm.Cond.code y yc ym yr ∈ tb) (hy : x.cls ≠ "java/lang/invoke/MethodHandle" ∧ x.cls ≠ "java/lang/invoke/VarHandle") (E : Exa Z h a D) (con : Con l Z EL y yc ym yr rm (.ref a :: as).toArray h os' yQ you) (hos' : ∀ x ∈ os', x ∈ os) (pd : parseMethodDescriptor x.desc = some ⟨ps, r⟩) (hlen : as.length = ps.length) (hls : Ls.size = ml) (hwd : (rest.map fun v => v.category).sum ≤ wd) (hf : rm.frames + 1 ≤ R.frames) (hl : wd + (ym + 11) + rm.locals ≤ R.locals) (hc : k + rm.cells ≤ R.cells) (hs : n + rm.slots ≤ R.slots) (hst : st = as.reverse ++ .ref a :: rest)
    (K : ∀ v h', yQ v h' → W h' (you v ++ os) (k + rm.cells) (n + rm.slots) pc' Ls (v.toList ++ rest)) : W h os k n pc Ls st := by
  obtain ⟨p, e, s, m, args, below, meth, c, rfl, hx, hby, hml, hown0, hrt', hlk, hZ0, hnm, hw, hEL⟩ := C
  intro hE vm0 k0 T locs hS hk0 H hos X eT N
  have hZ : Z.Warmed39 (s.setVm vm0).vm := State.Warmed39.trans hZ0 hS.1
  have hown : (s.setVm vm0).vm.findClass own = some m.cls := by show vm0.findClass own = _; rw [hS.1.alike.findClass]; exact hown0
  subst hp
  obtain ⟨cq, kq, q1, q2, q3⟩ := isOf (T := T) hZ eT E
  obtain ⟨v, vm₁, ⟨T', L', k', n'⟩, -, X', hS', hgr, P, S⟩ := X.interfaceBackS hx (xi := x) (y := y) hown (mvT hZ (hw _ w1)) (mvT hZ (hw _ w2)) (mvT hZ (hw _ w7) hI) (mvT hZ (hw _ w5)) (mvT hZ (hw _ w6)) (mvT hZ (hw _ w8)) (mvT hZ (hw _ w9)) (mvT hZ (hw _ w10)) hy (paid (vm0 := vm0) (wd := wd) con hE hZ (hw _ w4) (hw _ w3) hf hl hEL H.1 (hos.sub hos')) q1 q2 q3 (g := mkF m pc Ls st) rfl (by show Ls.size = _; rw [hls, hml]) (Steps.refl _) (argsL := as) (rest := rest) (lenOf pd hlen) hst (by show 2 * 0 + _ ≤ _; omega) (hb hby hd) (fun _ _ => ⟨rfl, eT, hc, hs⟩)
  obtain ⟨Lc, ⟨hq, hE', hN⟩, l', y', z', hC, hO⟩ := P
  dsimp only [Pt.U, Pt.locs, Pt.cells, Pt.slots] at X' l' y' z' S hq hE' hS' hgr hC hO
  subst l' y' z'
  obtain ⟨u, o, h1, h2⟩ := K v T'.heap hq hE' T'.vm T'.heap.size T' _ (hS.trans hS' (Nat.le_trans hk0 (eT ▸ hgr))) (Nat.le_refl _) (H.trans hC) (hO.app (hos.on hC)) X' rfl (Fr.app N hN)
  exact ⟨u, o, S.trans h1, h2⟩
theorem Walk.instanceofT (C : Walk W l Z a0 tb EL own code ml rt nm R Q ou) (pc' : Nat) {idx : Nat} {D : String} {a : Addr} (hd : decode code pc = .ok (.instanceof idx, 3)) (hp : pc' = pc + 3) (w : Jvm.Cond.classLink own idx D ∈ tb) (I : Ins Z h a D true) (K : W h os k n pc' Ls (.int 1 :: st)) : W h os k n pc Ls (.ref a :: st) := by
  obtain ⟨p, e, s, m, args, below, meth, c, rfl, hx, hby, hml, hown0, hrt', hlk, hZ0, hnm, hw, hEL⟩ := C
  intro hE vm0 k0 T locs hS hk0 H hos X eT N
  have hZ : Z.Warmed39 (s.setVm vm0).vm := State.Warmed39.trans hZ0 hS.1
  have hown : (s.setVm vm0).vm.findClass own = some m.cls := by show vm0.findClass own = _; rw [hS.1.alike.findClass]; exact hown0
  subst hp
  obtain ⟨T', X', e', S⟩ := instY X hx hZ hown (hw _ w) eT I (g := mkF m pc Ls (.ref a :: st)) rfl rfl (hb hby hd)
  obtain ⟨u, o, h1, h2⟩ := K hE vm0 k0 T' _ hS hk0 H hos X' e' N
  exact ⟨u, o, S _ h1, h2⟩
theorem Ro.al {a : Addr} {D : String} {cA : ClassId} {vs : List Value} (A : Ro Z h a D cA vs) : Al Z h a (.object D) vs := by obtain ⟨c, A1, -, A3⟩ := A; exact ⟨c, A1, A3⟩
theorem Walk.aaloadA (C : Walk W l Z a0 tb EL own code ml rt nm R Q ou) (pc' : Nat) {a : Addr} {ty : FieldType} {vs : List Value} {j : Int32} (i : Nat) (v : Value) (hd : decode code pc = .ok (.aaload, 1)) (hp : pc' = pc + 1) (hty : ty.isReference = true) (A : Al Z h a ty vs) (hn : ¬ j < 0) (hi : j.toNatClampNeg = i) (hv : vs[i]? = some v)
    (K : W h os k n pc' Ls (v :: st)) : W h os k n pc Ls (.int j :: .ref a :: st) := by
  obtain ⟨p, e, s, m, args, below, meth, c, rfl, hx, hby, hml, hown0, hrt', hlk, hZ0, hnm, hw, hEL⟩ := C
  intro hE vm0 k0 T locs hS hk0 H hos X eT N
  have hZ : Z.Warmed39 (s.setVm vm0).vm := State.Warmed39.trans hZ0 hS.1
  have hown : (s.setVm vm0).vm.findClass own = some m.cls := by show vm0.findClass own = _; rw [hS.1.alike.findClass]; exact hown0
  subst hp
  obtain ⟨cl, A1, A3⟩ := A
  have hl : i < vs.length := (List.getElem?_eq_some_iff.mp hv).1
  have hj : ¬ (j < 0 ∨ cl.slots.size ≤ j.toNatClampNeg) := by rw [list_sz A3, hi]; exact fun q => q.elim hn (fun q => absurd hl (Nat.not_lt.mpr q))
  obtain ⟨u, o, h1, h2⟩ := K hE vm0 k0 T _ hS hk0 H hos X eT N
  exact ⟨u, o, X.aaload hx (by rw [eT]; exact A1.1) (State.isArrayOf_alike hZ.alike A1.2.1) hty A1.2.2 hj (by rw [hi, list_at A3]; exact hv) (g := mkF m pc Ls (.int j :: .ref a :: st)) rfl rfl (hb hby hd) _ h1, h2⟩
theorem Walk.clone (C : Walk W l Z a0 tb EL own code ml rt nm R Q ou) (pc' : Nat) {idx : Nat} {a : Addr} {ad : String} {cl : Cell} {ty : FieldType} (cap wd : Nat) (hd : decode code pc = .ok (.invokevirtual idx, 3)) (hp : pc' = pc + 3) (w1 : Jvm.Cond.methodLink own idx ⟨ad, "clone", "()Ljava/lang/Object;"⟩ ∈ tb) (w2 : Jvm.Cond.sameMethod ad "java/lang/Object" "clone" "()Ljava/lang/Object;" ∈ tb) (w3 : Jvm.Cond.native ⟨"java/lang/Object", "clone", "()Ljava/lang/Object;"⟩ ∈ tb) (w4 : Jvm.Cond.instanceMethod ⟨"java/lang/Object", "clone", "()Ljava/lang/Object;"⟩ ∈ tb) (w5 : Jvm.Cond.selects ad ⟨ad, "clone", "()Ljava/lang/Object;"⟩ ⟨"java/lang/Object", "clone", "()Ljava/lang/Object;"⟩ ∈ tb) (w6 : Jvm.Cond.castable ad "java/lang/Cloneable" ∈ tb)
    (A : Arr Z h a cl ty) (E : Exa Z h a ad) (F : FitC Z cl) (hls : Ls.size = ml) (hf : 1 ≤ R.frames) (hwd : (st.map fun v => v.category).sum ≤ wd) (hl : wd + 14 ≤ R.locals) (hcap : cl.slots.size ≤ cap) (hc : k + 1 ≤ R.cells) (hs : n + cap ≤ R.slots)
    (K : ∀ h', Ext h h' → Al Z h' h.size ty cl.slots.toList → Exa Z h' h.size ad → W h' (h.size :: os) (k + 1) (n + cap) pc' Ls (.ref h.size :: st)) : W h os k n pc Ls (.ref a :: st) := by
  obtain ⟨p, e, s, m, args, below, meth, c, rfl, hx, hby, hml, hown0, hrt', hlk, hZ0, hnm, hw, hEL⟩ := C
  intro hE vm0 k0 T locs hS hk0 H hos X eT N
  have hZ : Z.Warmed39 (s.setVm vm0).vm := State.Warmed39.trans hZ0 hS.1
  have hown : (s.setVm vm0).vm.findClass own = some m.cls := by show vm0.findClass own = _; rw [hS.1.alike.findClass]; exact hown0
  subst hp
  obtain ⟨T', h', X', e', E', A', X2, S⟩ := cloneA X hx hZ hown (hw _ w1) (hw _ w2) (hw _ w3) (hw _ w4) (hw _ w5) (hw _ w6) eT A E F (g := mkF m pc Ls (.ref a :: st)) rfl (by show Ls.size = _; rw [hls, hml]) rfl (hb hby hd) hf (W := wd) (cap := cap) (by show 2 * 0 + _ ≤ _; omega) hl hcap hc hs
  obtain ⟨u, o, h1, h2⟩ := K h' E' ⟨_, A', rfl⟩ X2 (Old.ext (n0 := Z.heap.size) ⟨rfl, hE⟩ E').2 vm0 k0 T' _ hS (Nat.le_trans hk0 E'.1) (H.trans (CHr.ext E' H.1)) (hos.made E' H.1 hE.1 A'.lt) X' e' N
  exact ⟨u, o, S _ h1, h2⟩
theorem al_of_arv {b : Addr} {kc : ClassId} {ty : FieldType} {z : Int32} {vs : List Value} {d : Value} (F : Arv Z h b kc ty z vs d) (hl : z.toNatClampNeg = vs.length) : Jvm.Own.Al Z h b ty vs := by
  obtain ⟨c, A, -, s1, -, hh, -⟩ := F
  refine ⟨c, A, ?_⟩
  apply List.ext_getElem?
  intro i
  rw [← Jvm.Own.list_at rfl i]
  by_cases hi : i < vs.length
  · rw [hh i (by omega)]; simp [List.getD, hi]
  · rw [Array.getElem?_eq_none (by omega), List.getElem?_eq_none (by omega)]
theorem Walk.ldcC (C : Walk W l Z a0 tb EL own code ml rt nm R Q ou) (pc' : Nat) {idx : Nat} {text : String} {vs : List Value} (z : Int32) (cap : Nat) (hd : decode code pc = .ok (.ldc idx, 2)) (hp : pc' = pc + 2) (w : Jvm.Cond.stringLink own idx text ∈ tb) (wS : ∀ a ∈ Bundle.stringAtoms, a.before a0 Z = true) (hm : (own, idx) ∈ EL)
    (ht : (∀ c ∈ text.toList, c.toNat < 256) ∧ text.toList.map (fun c => Value.int (Jvm.Lit.byteI c.toNat.toUInt16)) = vs) (hz : ¬ z < 0) (hl : z.toNatClampNeg = vs.length) (hn : 4 * text.toList.length ≤ cap) (hb' : cap ≤ 536870912) (hc : k + 2 ≤ R.cells) (hl' : n + (cap + 4) ≤ R.slots)
    (K : ∀ h' a b, Ext h h' → Exa Z h' a "java/lang/String" → Fld Z h' a "java/lang/String" "value" "[B" (.ref b) → Fld Z h' a "java/lang/String" "coder" "B" (.int 0) → Al Z h' b .byte vs → (∀ x ∈ os, x ≠ a ∧ x ≠ b) → W h' os (k + 2) (n + (cap + 4)) pc' Ls (.ref a :: st)) : W h os k n pc Ls st := by
  obtain ⟨p, e, s, m, args, below, meth, c, rfl, hx, hby, hml, hown0, hrt', hlk, hZ0, hnm, hw, hEL⟩ := C
  intro hE vm0 k0 T locs hS hk0 H hos X eT N
  have hZ : Z.Warmed39 (s.setVm vm0).vm := State.Warmed39.trans hZ0 hS.1
  have hown : (s.setVm vm0).vm.findClass own = some m.cls := by show vm0.findClass own = _; rw [hS.1.alike.findClass]; exact hown0
  subst hp
  obtain ⟨a, T', h', k1, b, kc, X', e', E', hS2, hk2, hZ2, hown2, q1, q2, q3, q4, q5, q6, hC, hL, hne, S⟩ := ldcCH X hx hZ hown (hw _ w) wS eT hS hk0 hEL hm H.1 ht hz hl (g := mkF m pc Ls st) rfl (hb hby hd) hn hb' hc hl'
  obtain ⟨u, o, h1, h2⟩ := K h' a b E' q1 q3 q2 (al_of_arv q4 hl) (fun x hx => hne x ((hos.on hC) x hx).2.1) (Old.ext (n0 := Z.heap.size) ⟨rfl, hE⟩ E').2 T'.vm k1 T' _ hS2 hk2 (H.trans hC) (hos.on hC) X' e' N
  exact ⟨u, o, S _ h1, h2⟩
theorem Walk.ldcO (C : Walk W l Z a0 tb EL own code ml rt nm R Q ou) (pc' : Nat) {idx : Nat} {text : String} (cap : Nat) (hd : decode code pc = .ok (.ldc idx, 2)) (hp : pc' = pc + 2) (w : Jvm.Cond.stringLink own idx text ∈ tb) (wS : ∀ a ∈ Bundle.stringAtoms, a.before a0 Z = true)
    (hn : 4 * text.toList.length ≤ cap) (hb' : cap ≤ 536870912) (hc : k + 2 ≤ R.cells) (hl' : n + (cap + 4) ≤ R.slots)
    (K : ∀ h' a, Ext h h' → W h' os (k + 2) (n + (cap + 4)) pc' Ls (.ref a :: st)) : W h os k n pc Ls st := by
  obtain ⟨p, e, s, m, args, below, meth, c, rfl, hx, hby, hml, hown0, hrt', hlk, hZ0, hnm, hw, hEL⟩ := C
  intro hE vm0 k0 T locs hS hk0 H hos X eT N
  have hZ : Z.Warmed39 (s.setVm vm0).vm := State.Warmed39.trans hZ0 hS.1
  have hown : (s.setVm vm0).vm.findClass own = some m.cls := by show vm0.findClass own = _; rw [hS.1.alike.findClass]; exact hown0
  subst hp
  obtain ⟨a, T', h', k1, X', e', E', hS2, hk2, hZ2, hown2, hC, hL, S⟩ := ldcOH X hx hZ hown (hw _ w) wS eT hS hk0 hEL H.1 (g := mkF m pc Ls st) rfl (hb hby hd) hn hb' hc hl'
  obtain ⟨u, o, h1, h2⟩ := K h' a E' (Old.ext (n0 := Z.heap.size) ⟨rfl, hE⟩ E').2 T'.vm k1 T' _ hS2 hk2 (H.trans hC) (hos.on hC) X' e' N
  exact ⟨u, o, S _ h1, h2⟩
end Rules
end Jvm.Own

namespace Jvm.Pilot.@@N@@
open Jvm Jvm.ClassFile Sem Op Lib Jvm.Free Jvm.Stand Jvm.LawKit Jvm.RoadKit Bundle Jvm.Own Jvm.Pilot.@@N@@.Jvm.D
theorem tw (i : Nat) {d : Jvm.Cond} (h : tables_1[i]? = some d := by rfl) : d ∈ tables_1 := List.mem_of_getElem? h
def EL0 : List (String × Nat) := []
theorem oI {x : Nat} (h : x < 2 ^ 31) : (Int32.ofNat x).toInt = x := Int32.toInt_ofNat_of_lt h
theorem o_lt {x y : Nat} (hx : x < 2 ^ 31) (hy : y < 2 ^ 31) : Int32.ofNat x < Int32.ofNat y ↔ x < y := by rw [Int32.lt_iff_toInt_lt, oI hx, oI hy]; omega
theorem o_add (x y : Nat) : Int32.ofNat x + Int32.ofNat y = Int32.ofNat (x + y) := (Int32.ofNat_add x y).symm
theorem o_nn {x : Nat} (h : x < 2 ^ 31) : ¬ Int32.ofNat x < 0 := by
  have e : (0 : Int32).toInt = 0 := rfl
  rw [Int32.lt_iff_toInt_lt, oI h, e]; omega
theorem o_cl {x : Nat} (h : x < 2 ^ 31) : (Int32.ofNat x).toNatClampNeg = x := clamp_of rfl h
theorem o_ne {x : Nat} (h : x < 2 ^ 31) (h0 : x ≠ 0) : ¬ Int32.ofNat x = 0 := fun q => by
  have r := congrArg Int32.toInt q
  have e : (0 : Int32).toInt = 0 := rfl
  rw [oI h, e] at r; omega
theorem o_inj {x y : Nat} (hx : x < 2 ^ 31) (hy : y < 2 ^ 31) (h : Int32.ofNat x = Int32.ofNat y) : x = y := by
  have r := congrArg Int32.toInt h
  rw [oI hx, oI hy] at r; omega
def by8 (c : Int32) : Int32 := c.toInt8.toInt32
theorem by8_nar (x : Int32) : nar .byte (by8 x) = by8 x := by
  show x.toInt8.toInt32.toInt8.toInt32 = x.toInt8.toInt32
  simp
abbrev iv' (xs : List Int32) : List Value := xs.map Value.int
def b0 (c : Int32) : Int32 := (c >>> ((0 : Int32) &&& 31)).toInt8.toInt32
def b1 (c : Int32) : Int32 := (c >>> ((8 : Int32) &&& 31)).toInt8.toInt32
theorem b0_nar (c : Int32) : nar .byte (b0 c) = b0 c := by8_nar (c >>> ((0 : Int32) &&& 31))
theorem b1_nar (c : Int32) : nar .byte (b1 c) = b1 c := by8_nar (c >>> ((8 : Int32) &&& 31))
def u16 : List Int32 → List Int32
  | [] => []
  | c :: cs => b0 c :: b1 c :: u16 cs
theorem u16_len : ∀ cs : List Int32, (u16 cs).length = 2 * cs.length
  | [] => rfl
  | c :: cs => by show (u16 cs).length + 1 + 1 = 2 * (cs.length + 1); rw [u16_len cs]; omega
theorem u16_app : ∀ (as bs : List Int32), u16 (as ++ bs) = u16 as ++ u16 bs
  | [], _ => rfl
  | c :: as, bs => by show b0 c :: b1 c :: u16 (as ++ bs) = _; rw [u16_app as bs]; rfl
theorem u16_0 : ∀ (cs : List Int32) (i : Nat) (c : Int32), cs[i]? = some c → (u16 cs)[2 * i]? = some (b0 c) ∧ (u16 cs)[2 * i + 1]? = some (b1 c)
  | [], i, c, h => by simp at h
  | d :: cs, 0, c, h => by
    have e : d = c := by simpa using h
    subst e; exact ⟨rfl, rfl⟩
  | d :: cs, i + 1, c, h => by
    have q := u16_0 cs i c (by simpa using h)
    rw [show 2 * (i + 1) = 2 * i + 1 + 1 by omega, show 2 * i + 1 + 1 + 1 = (2 * i + 1) + 1 + 1 by omega]
    simpa [u16] using q
/-- a char's range -/
def Ch (c : Int32) : Prop := 0 ≤ c.toInt ∧ c.toInt < 65536
def lat (cs : List Int32) : Prop := ∀ c ∈ cs, ¬ (255 : Int32) < c
instance (cs : List Int32) : Decidable (lat cs) := by unfold lat; exact inferInstance
theorem i255 : (255 : Int32).toInt = 255 := rfl
theorem gl8 {c : Int32} (h : Ch c) (hc : ¬ (255 : Int32) < c) : (by8 c &&& (255 : Int32)).toUInt32.toUInt16.toUInt32.toInt32 = c := by
  apply Int32.toInt_inj.mp
  rw [Int32.lt_iff_toInt_lt, i255] at hc
  have h1 := c_i2b c
  have h2 := c_mask (by8 c) (255 : Int32) 8 (by decide) (by decide)
  have h3 := c_i2c (by8 c &&& (255 : Int32))
  have e : (by8 c).toInt = c.toInt8.toInt32.toInt := rfl
  obtain ⟨q1, q2⟩ := h
  omega
theorem gl16 {c : Int32} (h : Ch c) : (((b0 c &&& (255 : Int32)) <<< ((0 : Int32) &&& 31)) ||| ((b1 c &&& (255 : Int32)) <<< ((8 : Int32) &&& 31))).toUInt32.toUInt16.toUInt32.toInt32 = c := by
  apply Int32.toInt_inj.mp
  obtain ⟨q1, q2⟩ := h
  have a1 := c_ishr c (0 : Int32) 0 (by decide)
  have a2 := c_ishr c (8 : Int32) 8 (by decide)
  have a3 := c_i2b (c >>> ((0 : Int32) &&& 31))
  have a4 := c_i2b (c >>> ((8 : Int32) &&& 31))
  have e0 : (b0 c).toInt = (c >>> ((0 : Int32) &&& 31)).toInt8.toInt32.toInt := rfl
  have e1 : (b1 c).toInt = (c >>> ((8 : Int32) &&& 31)).toInt8.toInt32.toInt := rfl
  have m0 := c_mask (b0 c) (255 : Int32) 8 (by decide) (by decide)
  have m1 := c_mask (b1 c) (255 : Int32) 8 (by decide) (by decide)
  have s0 := c_ishl (b0 c &&& (255 : Int32)) (0 : Int32) 0 (by decide)
  have s1 := c_ishl (b1 c &&& (255 : Int32)) (8 : Int32) 8 (by decide)
  have r0 := rng32 ((b0 c &&& (255 : Int32)) <<< ((0 : Int32) &&& 31))
  have r1 := rng32 ((b1 c &&& (255 : Int32)) <<< ((8 : Int32) &&& 31))
  have f0 : ((b0 c &&& (255 : Int32)) <<< ((0 : Int32) &&& 31)).toInt = c.toInt % 256 := by omega
  have f1 : ((b1 c &&& (255 : Int32)) <<< ((8 : Int32) &&& 31)).toInt = c.toInt / 256 * 256 := by omega
  have o1 := c_or' ((b0 c &&& (255 : Int32)) <<< ((0 : Int32) &&& 31)) ((b1 c &&& (255 : Int32)) <<< ((8 : Int32) &&& 31)) 8 (by decide) 256 rfl (by omega) (by omega) (by omega)
  have o2 := c_i2c (((b0 c &&& (255 : Int32)) <<< ((0 : Int32) &&& 31)) ||| ((b1 c &&& (255 : Int32)) <<< ((8 : Int32) &&& 31)))
  omega
theorem set2 {α : Type} (A B : List α) (x y z w : α) : ((A ++ x :: y :: B).set A.length z).set (A.length + 1) w = A ++ z :: w :: B := by
  induction A with
  | nil => rfl
  | cons a A ih => simpa using ih
def outR : Option Value → List Addr
  | some (.ref b) => [b]
  | _ => []
theorem ch_nar {c : Int32} (h : Ch c) : nar .char c = c := by
  apply Int32.toInt_inj.mp
  have q := c_i2c c
  obtain ⟨q1, q2⟩ := h
  show c.toUInt32.toUInt16.toUInt32.toInt32.toInt = _
  omega
def cod (cs : List Int32) : Int32 := if lat cs then 0 else 1
def enc (cs : List Int32) : List Int32 := if lat cs then cs.map by8 else u16 cs
/-- a String whose chars are cs, its bytes in the byte[] at b -/
def Str (Z : State) (h : Heap) (a b : Addr) (cs : List Int32) : Prop :=
  Exa Z h a "java/lang/String" ∧ Fld Z h a "java/lang/String" "value" "[B" (.ref b) ∧ Fld Z h a "java/lang/String" "coder" "B" (.int (cod cs)) ∧ Al Z h b .byte (iv' (enc cs))
theorem Str.keep {Z : State} {h h' : Heap} {a b : Addr} {cs : List Int32} {ws : List Addr} (S : Str Z h a b cs) (K : Keep h h' ws) (qa : a ∉ ws) (qb : b ∉ ws) : Str Z h' a b cs := ⟨S.1.keep K, S.2.1.keep K qa, S.2.2.1.keep K qa, S.2.2.2.keep K qb⟩
theorem Str.ext {Z : State} {h h' : Heap} {a b : Addr} {cs : List Int32} (S : Str Z h a b cs) (E : Ext h h') : Str Z h' a b cs := ⟨S.1.ext E, S.2.1.ext E, S.2.2.1.ext E, S.2.2.2.ext E⟩
theorem cod_nar (cs : List Int32) : nar .byte (cod cs) = cod cs := by unfold cod; split <;> rfl
theorem cod_l {cs : List Int32} (h : lat cs) : cod cs = 0 := if_pos h
theorem cod_u {cs : List Int32} (h : ¬ lat cs) : cod cs = 1 := if_neg h
theorem enc_l {cs : List Int32} (h : lat cs) : enc cs = cs.map by8 := if_pos h
theorem enc_u {cs : List Int32} (h : ¬ lat cs) : enc cs = u16 cs := if_neg h
theorem o_dbl {x : Nat} (h : x < 2 ^ 30) : Int32.ofNat x <<< ((1 : Int32) &&& 31) = Int32.ofNat (2 * x) := by
  apply Int32.toInt_inj.mp
  have s := c_ishl (Int32.ofNat x) (1 : Int32) 1 (by decide)
  have r := rng32 (Int32.ofNat x <<< ((1 : Int32) &&& 31))
  rw [oI (show x < 2 ^ 31 by omega)] at s
  rw [oI (show 2 * x < 2 ^ 31 by omega)]; omega
theorem o_half {x : Nat} (h : x < 2 ^ 30) : Int32.ofNat (2 * x) >>> ((1 : Int32) &&& 31) = Int32.ofNat x := by
  apply Int32.toInt_inj.mp
  have s := c_ishr (Int32.ofNat (2 * x)) (1 : Int32) 1 (by decide)
  rw [oI (show 2 * x < 2 ^ 31 by omega)] at s
  rw [s, oI (show x < 2 ^ 31 by omega)]; omega
theorem o_shr0 {x : Nat} (h : x < 2 ^ 30) : Int32.ofNat x >>> ((0 : Int32) &&& 31) = Int32.ofNat x := by
  apply Int32.toInt_inj.mp
  have s := c_ishr (Int32.ofNat x) (0 : Int32) 0 (by decide)
  rw [s]; omega
theorem o_cfu {x : Nat} (h : x < 2 ^ 30) (h0 : x ≠ 0) : (XT.ushr (Int32.ofNat x - Int32.ofNat (2 * x)) (31 : Int32)).toInt8.toInt32 = 1 := by
  have e : XT.ushr (Int32.ofNat x - Int32.ofNat (2 * x)) (31 : Int32) = 1 := by
    apply Int32.toInt_inj.mp
    have s := c_iushr (Int32.ofNat x - Int32.ofNat (2 * x)) (31 : Int32) 31 (by decide) (by decide)
    have d := c_isub (Int32.ofNat x) (Int32.ofNat (2 * x))
    rw [oI (show x < 2 ^ 31 by omega), oI (show 2 * x < 2 ^ 31 by omega)] at d
    have r := rng32 (Int32.ofNat x - Int32.ofNat (2 * x))
    have e1 : (1 : Int32).toInt = 1 := rfl
    show ((Int32.ofNat x - Int32.ofNat (2 * x)).toUInt32 >>> ((31 : Int32) &&& 31).toUInt32).toInt32.toInt = _
    rw [s, e1]; omega
  rw [e]; rfl
theorem pn0 : plainFor x = true := plainFor_of_name (by first | (simp [x, plainName, overriddenIn]; done) | decide +kernel)
theorem d5_0 : decode jdk_52_method_21_code 0 = .ok (.iconst 0, 1) := by decide +kernel
theorem d5_1 : decode jdk_52_method_21_code 1 = .ok (.istore 5, 2) := by decide +kernel
theorem d5_3 : decode jdk_52_method_21_code 3 = .ok (.iload 5, 2) := by decide +kernel
theorem d5_5 : decode jdk_52_method_21_code 5 = .ok (.iload 4, 2) := by decide +kernel
theorem d5_7 : decode jdk_52_method_21_code 7 = .ok (.if_icmp .ge 37, 3) := by decide +kernel
theorem d5_10 : decode jdk_52_method_21_code 10 = .ok (.aload_n 0, 1) := by decide +kernel
theorem d5_11 : decode jdk_52_method_21_code 11 = .ok (.iload_n 1, 1) := by decide +kernel
theorem d5_12 : decode jdk_52_method_21_code 12 = .ok (.caload, 1) := by decide +kernel
theorem d5_13 : decode jdk_52_method_21_code 13 = .ok (.istore 6, 2) := by decide +kernel
theorem d5_15 : decode jdk_52_method_21_code 15 = .ok (.iload 6, 2) := by decide +kernel
theorem d5_17 : decode jdk_52_method_21_code 17 = .ok (.sipush 255, 3) := by decide +kernel
theorem d5_20 : decode jdk_52_method_21_code 20 = .ok (.if_icmp .le 6, 3) := by decide +kernel
theorem d5_23 : decode jdk_52_method_21_code 23 = .ok (.iload 5, 2) := by decide +kernel
theorem d5_25 : decode jdk_52_method_21_code 25 = .ok (.ireturn, 1) := by decide +kernel
theorem d5_26 : decode jdk_52_method_21_code 26 = .ok (.aload_n 2, 1) := by decide +kernel
theorem d5_27 : decode jdk_52_method_21_code 27 = .ok (.iload_n 3, 1) := by decide +kernel
theorem d5_28 : decode jdk_52_method_21_code 28 = .ok (.iload 6, 2) := by decide +kernel
theorem d5_30 : decode jdk_52_method_21_code 30 = .ok (.i2b, 1) := by decide +kernel
theorem d5_31 : decode jdk_52_method_21_code 31 = .ok (.bastore, 1) := by decide +kernel
theorem d5_32 : decode jdk_52_method_21_code 32 = .ok (.iinc 1 1, 3) := by decide +kernel
theorem d5_35 : decode jdk_52_method_21_code 35 = .ok (.iinc 3 1, 3) := by decide +kernel
theorem d5_38 : decode jdk_52_method_21_code 38 = .ok (.iinc 5 1, 3) := by decide +kernel
theorem d5_41 : decode jdk_52_method_21_code 41 = .ok (.goto (-38), 3) := by decide +kernel
theorem d5_44 : decode jdk_52_method_21_code 44 = .ok (.iload 4, 2) := by decide +kernel
theorem d5_46 : decode jdk_52_method_21_code 46 = .ok (.ireturn, 1) := by decide +kernel
theorem pn5 : plainFor (⟨"java/lang/StringUTF16", "compress", "([CI[BII)I"⟩ : MethodName) = true := by first | exact plainFor_of_name (by first | (simp [plainName, overriddenIn]; done) | decide +kernel) | decide +kernel
theorem pd5 : parseMethodDescriptor "([CI[BII)I" = some ⟨[(.array .char), .int, (.array .byte), .int, .int], some .int⟩ := by decide +kernel
set_option maxRecDepth 65536 in
set_option maxHeartbeats 40000000 in
theorem c5_loop {W : Wk} {l : Launch} {Z : State} {a0' : Array Value} {R : Room} {Q : Option Value → Heap → Prop} (C : Walk W l Z a0' tables_1 EL0 "java/lang/StringUTF16" jdk_52_method_21_code 7 (some .int) "compress" R Q (fun _ => [])) {ck cs' : Nat} (hck : ck ≤ R.cells) (hcs : cs' ≤ R.slots) (os : List Addr) (src dst : Addr) (zd : dst ∈ os) (ne : src ≠ dst) (cs : List Int32) (hn : cs.length < 2 ^ 29) :
    ∀ (rest pre : List Int32) (h : Heap) (s6 : Slot), cs = pre ++ rest → lat pre → Al Z h src .char (iv' cs) → Al Z h dst .byte (iv' (pre.map by8) ++ List.replicate rest.length (.int 0)) → (s6 = .unset ∨ ∃ w : Value, s6 = .val w ∧ w.category = 1) →
      (∀ h' : Heap, Keep h h' [dst] → lat cs → Al Z h' dst .byte (iv' (cs.map by8)) → Q (some (.int (Int32.ofNat cs.length))) h') →
      (∀ (h' : Heap) (r : Nat) (c : Int32), Keep h h' [dst] → cs[r]? = some c → (255 : Int32) < c → Q (some (.int (Int32.ofNat r))) h') → W h os ck cs' 3 #[.val (.ref src), .val (.int (Int32.ofNat pre.length)), .val (.ref dst), .val (.int (Int32.ofNat pre.length)), .val (.int (Int32.ofNat cs.length)), .val (.int (Int32.ofNat pre.length)), s6] []
  | [], pre, h, s6, e, hp, A, B, h6, K, KU => by
    have e' : pre = cs := by rw [e, List.append_nil]
    subst e'
    show W h os ck cs' 3 #[.val (.ref src), .val (.int (Int32.ofNat pre.length)), .val (.ref dst), .val (.int (Int32.ofNat pre.length)), .val (.int (Int32.ofNat pre.length)), .val (.int (Int32.ofNat pre.length)), s6] []
    have q : ¬ Int32.ofNat pre.length < Int32.ofNat pre.length := Int32.lt_irrefl
    refine C.iload 5 d5_3 rfl rfl ?_
    refine C.iload 7 d5_5 rfl rfl ?_
    refine C.icmpT 44 d5_7 rfl (flt q).2.1 ?_
    refine C.iload 46 d5_44 rfl rfl ?_
    exact C.retI .int d5_46 rfl (by simp) rfl hck hcs (K h (Keep.refl _ _) hp (by simpa using B)) (fun _ q => nomatch q)
  | c :: rest, pre, h, s6, e, hp, A, B, h6, K, KU => by
    have hlen : pre.length < cs.length := by rw [e, List.length_append, List.length_cons]; omega
    have q : Int32.ofNat pre.length < Int32.ofNat cs.length := (o_lt (by omega) (by omega)).mpr hlen
    have hg : cs[pre.length]? = some c := by rw [e]; simp
    refine C.iload 5 d5_3 rfl rfl ?_
    refine C.iload 7 d5_5 rfl rfl ?_
    refine C.icmpF 10 d5_7 rfl (tlt q).2.1 ?_
    refine C.aloadN 11 d5_10 rfl rfl rfl ?_
    refine C.iloadN 12 d5_11 rfl rfl ?_
    refine C.caload 13 pre.length (.int c) d5_12 rfl A (o_nn (by omega)) (o_cl (by omega)) (by rw [e]; simp) ?_
    refine C.istore 15 #[.val (.ref src), .val (.int (Int32.ofNat pre.length)), .val (.ref dst), .val (.int (Int32.ofNat pre.length)), .val (.int (Int32.ofNat cs.length)), .val (.int (Int32.ofNat pre.length)), .val (.int c)] d5_13 rfl (XS.store1 rfl h6 rfl) ?_
    refine C.iload 17 d5_15 rfl rfl ?_
    refine C.sipush 20 (255 : Int32) d5_17 rfl rfl ?_
    by_cases hc : (255 : Int32) < c
    · refine C.icmpF 23 d5_20 rfl (tlt hc).2.2.2 ?_
      refine C.iload 25 d5_23 rfl rfl ?_
      exact C.retI .int d5_25 rfl (by simp) rfl hck hcs (KU h pre.length c (Keep.refl _ _) hg hc) (fun _ q => nomatch q)
    · refine C.icmpT 26 d5_20 rfl (flt hc).2.2.2 ?_
      refine C.aloadN 27 d5_26 rfl rfl rfl ?_
      refine C.iloadN 28 d5_27 rfl rfl ?_
      refine C.iload 30 d5_28 rfl rfl ?_
      refine C.i2b 31 d5_30 rfl ?_
      refine C.bastoreB 32 pre.length (by8 c) d5_31 rfl B zd (o_nn (by omega)) (o_cl (by omega)) (by simp) (by8_nar c) ?_
      intro h1 W1 B1
      refine C.iinc 35 #[.val (.ref src), .val (.int ((Int32.ofNat pre.length) + (1 : Int32))), .val (.ref dst), .val (.int (Int32.ofNat pre.length)), .val (.int (Int32.ofNat cs.length)), .val (.int (Int32.ofNat pre.length)), .val (.int c)] d5_32 rfl rfl rfl ?_
      refine C.iinc 38 #[.val (.ref src), .val (.int ((Int32.ofNat pre.length) + (1 : Int32))), .val (.ref dst), .val (.int ((Int32.ofNat pre.length) + (1 : Int32))), .val (.int (Int32.ofNat cs.length)), .val (.int (Int32.ofNat pre.length)), .val (.int c)] d5_35 rfl rfl rfl ?_
      refine C.iinc 41 #[.val (.ref src), .val (.int ((Int32.ofNat pre.length) + (1 : Int32))), .val (.ref dst), .val (.int ((Int32.ofNat pre.length) + (1 : Int32))), .val (.int (Int32.ofNat cs.length)), .val (.int ((Int32.ofNat pre.length) + (1 : Int32))), .val (.int c)] d5_38 rfl rfl rfl ?_
      have e1 : Int32.ofNat pre.length + (1 : Int32) = Int32.ofNat (pre ++ [c]).length := by rw [List.length_append]; exact o_add pre.length 1
      show W h1 os ck cs' 41 #[.val (.ref src), .val (.int ((Int32.ofNat pre.length) + (1 : Int32))), .val (.ref dst), .val (.int ((Int32.ofNat pre.length) + (1 : Int32))), .val (.int (Int32.ofNat cs.length)), .val (.int ((Int32.ofNat pre.length) + (1 : Int32))), .val (.int c)] []
      rw [e1]
      refine C.goto 3 d5_41 rfl ?_
      refine c5_loop C hck hcs os src dst zd ne cs hn rest (pre ++ [c]) h1 _ (by rw [e]; simp) (fun x hx => by rcases List.mem_append.mp hx with hx | hx; exact hp x hx; rw [List.mem_singleton.mp hx]; exact hc) (A.keep (Keep.of_wr W1) (ninS ne nin0)) ?_ (Or.inr ⟨_, rfl, rfl⟩) (fun h' K' l' B' => K h' ((Keep.of_wr W1).trans K' (fun x hx => Or.inl hx)) l' B') (fun h' r c' K' g' b' => KU h' r c' ((Keep.of_wr W1).trans K' (fun x hx => Or.inl hx)) g' b')
      have e2 : (iv' (pre.map by8) ++ List.replicate (c :: rest).length (Value.int 0)).set pre.length (.int (by8 c)) = iv' ((pre ++ [c]).map by8) ++ List.replicate rest.length (.int 0) := by simp [List.replicate_succ]
      rw [e2] at B1
      exact B1
set_option maxRecDepth 65536 in
set_option maxHeartbeats 40000000 in
theorem c5 (l : Launch) (Z : State) (a0' : Array Value) (hw : ∀ d ∈ tables_1, d.before a0' Z = true) (hEL : EW Z a0' EL0) (hSA : ∀ a ∈ Bundle.stringAtoms, a.before a0' Z = true) (h : Heap) (src dst : Addr) (ne : src ≠ dst) (cs : List Int32) (hn : cs.length < 2 ^ 29) (A : Al Z h src .char (iv' cs)) (B : Al Z h dst .byte (List.replicate cs.length (.int 0))) :
    Con l Z EL0 (⟨"java/lang/StringUTF16", "compress", "([CI[BII)I"⟩ : MethodName) jdk_52_method_21_code 7 (some .int) ⟨0, 0, 0, 0⟩ #[.ref src, .int 0, .ref dst, .int 0, .int (Int32.ofNat cs.length)] h [dst] (fun v h' => Keep h h' [dst] ∧ ((v = some (.int (Int32.ofNat cs.length)) ∧ lat cs ∧ Al Z h' dst .byte (iv' (cs.map by8))) ∨ ∃ (r : Nat) (c : Int32), v = some (.int (Int32.ofNat r)) ∧ cs[r]? = some c ∧ (255 : Int32) < c)) (fun _ => []) := by
  refine Con.of (Ls := #[.val (.ref src), .val (.int (0 : Int32)), .val (.ref dst), .val (.int (0 : Int32)), .val (.int (Int32.ofNat cs.length)), .unset, .unset]) hw hEL pn5 (fun m => by first | (simp [entryFrame, mkF, argsToLocals, Value.category, maxLocals]; done) | rfl) fun W C => ?_
  refine C.kept fun hE => ?_
  have z0 : Z.heap.size ≤ h.size := hE.1
  refine C.iconst 1 (0 : Int32) d5_0 rfl rfl ?_
  refine C.istore 3 #[.val (.ref src), .val (.int (0 : Int32)), .val (.ref dst), .val (.int (0 : Int32)), .val (.int (Int32.ofNat cs.length)), .val (.int (0 : Int32)), .unset] d5_1 rfl rfl ?_
  exact c5_loop C (by decide) (by decide) [dst] src dst (by simp) ne cs hn cs [] h _ rfl (fun x hx => nomatch hx) A B (Or.inl rfl) (fun h' K' l' B' => ⟨K', Or.inl ⟨rfl, l', B'⟩⟩) (fun h' r c K' g' b' => ⟨K', Or.inr ⟨r, c, rfl, g', b'⟩⟩)
theorem d23_0 : decode jdk_52_method_3_code 0 = .ok (.iload_n 0, 1) := by decide +kernel
theorem d23_1 : decode jdk_52_method_3_code 1 = .ok (.ifCond .ge 11, 3) := by decide +kernel
theorem d23_4 : decode jdk_52_method_3_code 4 = .ok (.new 17, 3) := by decide +kernel
theorem d23_7 : decode jdk_52_method_3_code 7 = .ok (.dup, 1) := by decide +kernel
theorem d23_8 : decode jdk_52_method_3_code 8 = .ok (.invokespecial 19, 3) := by decide +kernel
theorem d23_11 : decode jdk_52_method_3_code 11 = .ok (.athrow, 1) := by decide +kernel
theorem d23_12 : decode jdk_52_method_3_code 12 = .ok (.iload_n 0, 1) := by decide +kernel
theorem d23_13 : decode jdk_52_method_3_code 13 = .ok (.ldc 20, 2) := by decide +kernel
theorem d23_15 : decode jdk_52_method_3_code 15 = .ok (.if_icmp .lt 40, 3) := by decide +kernel
theorem d23_18 : decode jdk_52_method_3_code 18 = .ok (.new 21, 3) := by decide +kernel
theorem d23_21 : decode jdk_52_method_3_code 21 = .ok (.dup, 1) := by decide +kernel
theorem d23_22 : decode jdk_52_method_3_code 22 = .ok (.new 23, 3) := by decide +kernel
theorem d23_25 : decode jdk_52_method_3_code 25 = .ok (.dup, 1) := by decide +kernel
theorem d23_26 : decode jdk_52_method_3_code 26 = .ok (.invokespecial 25, 3) := by decide +kernel
theorem d23_29 : decode jdk_52_method_3_code 29 = .ok (.ldc 26, 2) := by decide +kernel
theorem d23_31 : decode jdk_52_method_3_code 31 = .ok (.invokevirtual 28, 3) := by decide +kernel
theorem d23_34 : decode jdk_52_method_3_code 34 = .ok (.iload_n 0, 1) := by decide +kernel
theorem d23_35 : decode jdk_52_method_3_code 35 = .ok (.invokevirtual 32, 3) := by decide +kernel
theorem d23_38 : decode jdk_52_method_3_code 38 = .ok (.ldc 35, 2) := by decide +kernel
theorem d23_40 : decode jdk_52_method_3_code 40 = .ok (.invokevirtual 28, 3) := by decide +kernel
theorem d23_43 : decode jdk_52_method_3_code 43 = .ok (.ldc 20, 2) := by decide +kernel
theorem d23_45 : decode jdk_52_method_3_code 45 = .ok (.invokevirtual 32, 3) := by decide +kernel
theorem d23_48 : decode jdk_52_method_3_code 48 = .ok (.invokevirtual 37, 3) := by decide +kernel
theorem d23_51 : decode jdk_52_method_3_code 51 = .ok (.invokespecial 41, 3) := by decide +kernel
theorem d23_54 : decode jdk_52_method_3_code 54 = .ok (.athrow, 1) := by decide +kernel
theorem d23_55 : decode jdk_52_method_3_code 55 = .ok (.iload_n 0, 1) := by decide +kernel
theorem d23_56 : decode jdk_52_method_3_code 56 = .ok (.iconst 1, 1) := by decide +kernel
theorem d23_57 : decode jdk_52_method_3_code 57 = .ok (.ishl, 1) := by decide +kernel
theorem d23_58 : decode jdk_52_method_3_code 58 = .ok (.ireturn, 1) := by decide +kernel
theorem pn23 : plainFor (⟨"java/lang/StringUTF16", "newBytesLength", "(I)I"⟩ : MethodName) = true := by first | exact plainFor_of_name (by first | (simp [plainName, overriddenIn]; done) | decide +kernel) | decide +kernel
theorem pd23 : parseMethodDescriptor "(I)I" = some ⟨[.int], some .int⟩ := by decide +kernel
set_option maxRecDepth 65536 in
set_option maxHeartbeats 40000000 in
theorem nbl (l : Launch) (Z : State) (a0' : Array Value) (hw : ∀ d ∈ tables_1, d.before a0' Z = true) (hEL : EW Z a0' EL0) (hSA : ∀ a ∈ Bundle.stringAtoms, a.before a0' Z = true) (h : Heap) (x : Nat) (hx : x < 2 ^ 29) :
    Con l Z EL0 (⟨"java/lang/StringUTF16", "newBytesLength", "(I)I"⟩ : MethodName) jdk_52_method_3_code 1 (some .int) ⟨0, 0, 0, 0⟩ #[.int (Int32.ofNat x)] h [] (Same (some (.int (Int32.ofNat (2 * x)))) h) (fun _ => []) := by
  refine Con.of (Ls := #[.val (.int (Int32.ofNat x))]) hw hEL pn23 (fun m => by first | (simp [entryFrame, mkF, argsToLocals, Value.category, maxLocals]; done) | rfl) fun W C => ?_
  refine C.kept fun hE => ?_
  have z0 : Z.heap.size ≤ h.size := hE.1
  refine C.iloadN 1 d23_0 rfl rfl ?_
  refine C.ifT 12 d23_1 rfl ((if0 _ _).trans (flt (o_nn (x := x) (by omega))).2.1) ?_
  refine C.iloadN 13 d23_12 rfl rfl ?_
  refine C.ldc 15 (1073741823 : Int32) d23_13 rfl (tw 117) ?_
  have q : Int32.ofNat x < (1073741823 : Int32) := (o_lt (y := 1073741823) (by omega) (by omega)).mpr (by omega)
  refine C.icmpT 55 d23_15 rfl (tlt q).1 ?_
  refine C.iloadN 56 d23_55 rfl rfl ?_
  refine C.iconst 57 (1 : Int32) d23_56 rfl rfl ?_
  refine C.ishl 58 d23_57 rfl ?_
  rw [o_dbl (by omega)]
  exact C.retI .int d23_58 rfl (by simp) rfl (by decide) (by decide) ⟨rfl, rfl⟩ (fun _ q => nomatch q)
theorem d22_0 : decode jdk_52_method_2_code 0 = .ok (.iload_n 0, 1) := by decide +kernel
theorem d22_1 : decode jdk_52_method_2_code 1 = .ok (.invokestatic 11, 3) := by decide +kernel
theorem d22_4 : decode jdk_52_method_2_code 4 = .ok (.newarray .byte, 2) := by decide +kernel
theorem d22_6 : decode jdk_52_method_2_code 6 = .ok (.areturn, 1) := by decide +kernel
theorem pn22 : plainFor (⟨"java/lang/StringUTF16", "newBytesFor", "(I)[B"⟩ : MethodName) = true := by first | exact plainFor_of_name (by first | (simp [plainName, overriddenIn]; done) | decide +kernel) | decide +kernel
theorem pd22 : parseMethodDescriptor "(I)[B" = some ⟨[.int], some (.array .byte)⟩ := by decide +kernel
set_option maxRecDepth 65536 in
set_option maxHeartbeats 40000000 in
theorem nbf (l : Launch) (Z : State) (a0' : Array Value) (hw : ∀ d ∈ tables_1, d.before a0' Z = true) (hEL : EW Z a0' EL0) (hSA : ∀ a ∈ Bundle.stringAtoms, a.before a0' Z = true) (h : Heap) (x : Nat) (hx : x ≤ 4) :
    Con l Z EL0 (⟨"java/lang/StringUTF16", "newBytesFor", "(I)[B"⟩ : MethodName) jdk_52_method_2_code 1 (some (.array .byte)) ⟨1, 1, 8, 12⟩ #[.int (Int32.ofNat x)] h [] (fun v h' => ∃ b, v = some (.ref b) ∧ b = h.size ∧ Ext h h' ∧ Al Z h' b .byte (List.replicate (2 * x) (.int 0))) outR := by
  refine Con.of (Ls := #[.val (.int (Int32.ofNat x))]) hw hEL pn22 (fun m => by first | (simp [entryFrame, mkF, argsToLocals, Value.category, maxLocals]; done) | rfl) fun W C => ?_
  refine C.kept fun hE => ?_
  have z0 : Z.heap.size ≤ h.size := hE.1
  refine C.iloadN 1 d22_0 rfl rfl ?_
  refine C.callS 4 (as := [.int (Int32.ofNat x)]) (rest := []) (rm := ⟨0, 0, 0, 0⟩) 0 d22_1 rfl (tw 114) (tw 115) (tw 18) (tw 116) (by decide) (nbl l Z a0' hw hEL hSA h x (by omega)) (by simp) pd23 rfl rfl (Nat.le_of_eq rfl) (by decide) (by decide) (by decide) (by decide) rfl ?_
  refine same_intro ?_
  show W h [] 0 0 4 #[.val (.int (Int32.ofNat x))] [.int (Int32.ofNat (2 * x))]
  refine C.newarray 6 8 d22_4 rfl (tw 20) (o_nn (by omega)) (by rw [o_cl (by omega)]; omega) (by decide) (by decide) (by decide) ?_
  intro h1 E1 B1
  rw [o_cl (by omega)] at B1
  show W h1 [h.size] 1 8 6 #[.val (.int (Int32.ofNat x))] [.ref h.size]
  exact C.retA (.array .byte) d22_6 rfl rfl rfl (by decide) (by decide) ⟨_, rfl, rfl, E1, B1⟩ (by simp [outR])
theorem d24_0 : decode jdk_52_method_4_code 0 = .ok (.getstatic 44, 3) := by decide +kernel
theorem d24_3 : decode jdk_52_method_4_code 3 = .ok (.ifCond .ne 25, 3) := by decide +kernel
theorem d24_6 : decode jdk_52_method_4_code 6 = .ok (.iload_n 1, 1) := by decide +kernel
theorem d24_7 : decode jdk_52_method_4_code 7 = .ok (.ifCond .lt 11, 3) := by decide +kernel
theorem d24_10 : decode jdk_52_method_4_code 10 = .ok (.iload_n 1, 1) := by decide +kernel
theorem d24_11 : decode jdk_52_method_4_code 11 = .ok (.aload_n 0, 1) := by decide +kernel
theorem d24_12 : decode jdk_52_method_4_code 12 = .ok (.invokestatic 48, 3) := by decide +kernel
theorem d24_15 : decode jdk_52_method_4_code 15 = .ok (.if_icmp .lt 13, 3) := by decide +kernel
theorem d24_18 : decode jdk_52_method_4_code 18 = .ok (.new 52, 3) := by decide +kernel
theorem d24_21 : decode jdk_52_method_4_code 21 = .ok (.dup, 1) := by decide +kernel
theorem d24_22 : decode jdk_52_method_4_code 22 = .ok (.ldc 54, 2) := by decide +kernel
theorem d24_24 : decode jdk_52_method_4_code 24 = .ok (.invokespecial 56, 3) := by decide +kernel
theorem d24_27 : decode jdk_52_method_4_code 27 = .ok (.athrow, 1) := by decide +kernel
theorem d24_28 : decode jdk_52_method_4_code 28 = .ok (.iload_n 1, 1) := by decide +kernel
theorem d24_29 : decode jdk_52_method_4_code 29 = .ok (.iconst 1, 1) := by decide +kernel
theorem d24_30 : decode jdk_52_method_4_code 30 = .ok (.ishl, 1) := by decide +kernel
theorem d24_31 : decode jdk_52_method_4_code 31 = .ok (.istore_n 1, 1) := by decide +kernel
theorem d24_32 : decode jdk_52_method_4_code 32 = .ok (.aload_n 0, 1) := by decide +kernel
theorem d24_33 : decode jdk_52_method_4_code 33 = .ok (.iload_n 1, 1) := by decide +kernel
theorem d24_34 : decode jdk_52_method_4_code 34 = .ok (.iinc 1 1, 3) := by decide +kernel
theorem d24_37 : decode jdk_52_method_4_code 37 = .ok (.iload_n 2, 1) := by decide +kernel
theorem d24_38 : decode jdk_52_method_4_code 38 = .ok (.getstatic 59, 3) := by decide +kernel
theorem d24_41 : decode jdk_52_method_4_code 41 = .ok (.ishr, 1) := by decide +kernel
theorem d24_42 : decode jdk_52_method_4_code 42 = .ok (.i2b, 1) := by decide +kernel
theorem d24_43 : decode jdk_52_method_4_code 43 = .ok (.bastore, 1) := by decide +kernel
theorem d24_44 : decode jdk_52_method_4_code 44 = .ok (.aload_n 0, 1) := by decide +kernel
theorem d24_45 : decode jdk_52_method_4_code 45 = .ok (.iload_n 1, 1) := by decide +kernel
theorem d24_46 : decode jdk_52_method_4_code 46 = .ok (.iload_n 2, 1) := by decide +kernel
theorem d24_47 : decode jdk_52_method_4_code 47 = .ok (.getstatic 63, 3) := by decide +kernel
theorem d24_50 : decode jdk_52_method_4_code 50 = .ok (.ishr, 1) := by decide +kernel
theorem d24_51 : decode jdk_52_method_4_code 51 = .ok (.i2b, 1) := by decide +kernel
theorem d24_52 : decode jdk_52_method_4_code 52 = .ok (.bastore, 1) := by decide +kernel
theorem d24_53 : decode jdk_52_method_4_code 53 = .ok (.return_, 1) := by decide +kernel
theorem pn24 : plainFor (⟨"java/lang/StringUTF16", "putChar", "([BII)V"⟩ : MethodName) = true := by first | exact plainFor_of_name (by first | (simp [plainName, overriddenIn]; done) | decide +kernel) | decide +kernel
theorem pd24 : parseMethodDescriptor "([BII)V" = some ⟨[(.array .byte), .int, .int], none⟩ := by decide +kernel
set_option maxRecDepth 65536 in
set_option maxHeartbeats 40000000 in
theorem puc (l : Launch) (Z : State) (a0' : Array Value) (hw : ∀ d ∈ tables_1, d.before a0' Z = true) (hEL : EW Z a0' EL0) (hSA : ∀ a ∈ Bundle.stringAtoms, a.before a0' Z = true) (h : Heap) (cpt : Int32) (SCP : Sta Z Z.heap "java/lang/String" "COMPACT_STRINGS" "Z" (.int cpt)) (hcp : ¬ cpt = 0) (SAD : Sta Z Z.heap "java/lang/StringUTF16" "$assertionsDisabled" "Z" (.int (1 : Int32))) (SHI : Sta Z Z.heap "java/lang/StringUTF16" "HI_BYTE_SHIFT" "I" (.int (0 : Int32))) (SLO : Sta Z Z.heap "java/lang/StringUTF16" "LO_BYTE_SHIFT" "I" (.int (8 : Int32))) (b : Addr) (i : Nat) (c : Int32) (vs : List Value) (hv : vs.length < 2 ^ 30) (hi : 2 * i + 1 < vs.length) (B : Al Z h b .byte vs) :
    Con l Z EL0 (⟨"java/lang/StringUTF16", "putChar", "([BII)V"⟩ : MethodName) jdk_52_method_4_code 3 none ⟨0, 0, 0, 0⟩ #[.ref b, .int (Int32.ofNat i), .int c] h [b] (fun v h' => v = none ∧ Keep h h' [b] ∧ Al Z h' b .byte ((vs.set (2 * i) (.int (b0 c))).set (2 * i + 1) (.int (b1 c)))) (fun _ => []) := by
  refine Con.of (Ls := #[.val (.ref b), .val (.int (Int32.ofNat i)), .val (.int c)]) hw hEL pn24 (fun m => by first | (simp [entryFrame, mkF, argsToLocals, Value.category, maxLocals]; done) | rfl) fun W C => ?_
  refine C.kept fun hE => ?_
  have z0 : Z.heap.size ≤ h.size := hE.1
  refine C.getstatic 3 d24_0 rfl (tw 121) SAD ?_
  refine C.ifT 28 d24_3 rfl (by decide) ?_
  refine C.iloadN 29 d24_28 rfl rfl ?_
  refine C.iconst 30 (1 : Int32) d24_29 rfl rfl ?_
  refine C.ishl 31 d24_30 rfl ?_
  rw [o_dbl (by omega)]
  refine C.istoreN 32 #[.val (.ref b), .val (.int (Int32.ofNat (2 * i))), .val (.int c)] d24_31 rfl rfl ?_
  refine C.aloadN 33 d24_32 rfl rfl rfl ?_
  refine C.iloadN 34 d24_33 rfl rfl ?_
  have e1 : Int32.ofNat (2 * i) + (1 : Int32) = Int32.ofNat (2 * i + 1) := o_add (2 * i) 1
  refine C.iinc 37 #[.val (.ref b), .val (.int ((Int32.ofNat (2 * i)) + (1 : Int32))), .val (.int c)] d24_34 rfl rfl rfl ?_
  show W h [b] 0 0 37 #[.val (.ref b), .val (.int (Int32.ofNat (2 * i) + (1 : Int32))), .val (.int c)] [.int (Int32.ofNat (2 * i)), .ref b]
  rw [e1]
  refine C.iloadN 38 d24_37 rfl rfl ?_
  refine C.getstatic 41 d24_38 rfl (tw 122) SHI ?_
  refine C.ishr 42 d24_41 rfl ?_
  refine C.i2b 43 d24_42 rfl ?_
  show W h [b] 0 0 43 #[.val (.ref b), .val (.int (Int32.ofNat (2 * i + 1))), .val (.int c)] [.int (b0 c), .int (Int32.ofNat (2 * i)), .ref b]
  refine C.bastoreB 44 (2 * i) (b0 c) d24_43 rfl B (by simp) (o_nn (by omega)) (o_cl (by omega)) (by omega) (b0_nar c) ?_
  intro h1 W1 B1
  refine C.aloadN 45 d24_44 rfl rfl rfl ?_
  refine C.iloadN 46 d24_45 rfl rfl ?_
  refine C.iloadN 47 d24_46 rfl rfl ?_
  refine C.getstatic 50 d24_47 rfl (tw 123) SLO ?_
  refine C.ishr 51 d24_50 rfl ?_
  refine C.i2b 52 d24_51 rfl ?_
  show W h1 [b] 0 0 52 #[.val (.ref b), .val (.int (Int32.ofNat (2 * i + 1))), .val (.int c)] [.int (b1 c), .int (Int32.ofNat (2 * i + 1)), .ref b]
  refine C.bastoreB 53 (2 * i + 1) (b1 c) d24_52 rfl B1 (by simp) (o_nn (by omega)) (o_cl (by omega)) (by rw [List.length_set]; omega) (b1_nar c) ?_
  intro h2 W2 B2
  exact C.ret0 d24_53 rfl (by decide) (by decide) ⟨rfl, (Keep.of_wr W1).wr W2 (Or.inl (List.mem_of_getElem? (i := 0) rfl)), B2⟩ (fun _ q => nomatch q)
theorem d21_0 : decode jdk_52_method_14_code 0 = .ok (.iload_n 2, 1) := by decide +kernel
theorem d21_1 : decode jdk_52_method_14_code 1 = .ok (.invokestatic 107, 3) := by decide +kernel
theorem d21_4 : decode jdk_52_method_14_code 4 = .ok (.astore_n 3, 1) := by decide +kernel
theorem d21_5 : decode jdk_52_method_14_code 5 = .ok (.iconst 0, 1) := by decide +kernel
theorem d21_6 : decode jdk_52_method_14_code 6 = .ok (.istore 4, 2) := by decide +kernel
theorem d21_8 : decode jdk_52_method_14_code 8 = .ok (.iload 4, 2) := by decide +kernel
theorem d21_10 : decode jdk_52_method_14_code 10 = .ok (.iload_n 2, 1) := by decide +kernel
theorem d21_11 : decode jdk_52_method_14_code 11 = .ok (.if_icmp .ge 21, 3) := by decide +kernel
theorem d21_14 : decode jdk_52_method_14_code 14 = .ok (.aload_n 3, 1) := by decide +kernel
theorem d21_15 : decode jdk_52_method_14_code 15 = .ok (.iload 4, 2) := by decide +kernel
theorem d21_17 : decode jdk_52_method_14_code 17 = .ok (.aload_n 0, 1) := by decide +kernel
theorem d21_18 : decode jdk_52_method_14_code 18 = .ok (.iload_n 1, 1) := by decide +kernel
theorem d21_19 : decode jdk_52_method_14_code 19 = .ok (.caload, 1) := by decide +kernel
theorem d21_20 : decode jdk_52_method_14_code 20 = .ok (.invokestatic 111, 3) := by decide +kernel
theorem d21_23 : decode jdk_52_method_14_code 23 = .ok (.iinc 1 1, 3) := by decide +kernel
theorem d21_26 : decode jdk_52_method_14_code 26 = .ok (.iinc 4 1, 3) := by decide +kernel
theorem d21_29 : decode jdk_52_method_14_code 29 = .ok (.goto (-21), 3) := by decide +kernel
theorem d21_32 : decode jdk_52_method_14_code 32 = .ok (.aload_n 3, 1) := by decide +kernel
theorem d21_33 : decode jdk_52_method_14_code 33 = .ok (.areturn, 1) := by decide +kernel
theorem pn21 : plainFor (⟨"java/lang/StringUTF16", "toBytes", "([CII)[B"⟩ : MethodName) = true := by first | exact plainFor_of_name (by first | (simp [plainName, overriddenIn]; done) | decide +kernel) | decide +kernel
theorem pd21 : parseMethodDescriptor "([CII)[B" = some ⟨[(.array .char), .int, .int], some (.array .byte)⟩ := by decide +kernel
set_option maxRecDepth 65536 in
set_option maxHeartbeats 40000000 in
theorem tb_loop {W : Wk} {l : Launch} {Z : State} {a0' : Array Value} {R : Room} {Q : Option Value → Heap → Prop} (C : Walk W l Z a0' tables_1 EL0 "java/lang/StringUTF16" jdk_52_method_14_code 5 (some (.array .byte)) "toBytes" R Q (fun _ => [])) {ck cs' : Nat} (hck : ck ≤ R.cells) (hcs : cs' ≤ R.slots) (hw : ∀ d ∈ tables_1, d.before a0' Z = true) (hEL : EW Z a0' EL0) (hSA : ∀ a ∈ Bundle.stringAtoms, a.before a0' Z = true) (hfr : 1 ≤ R.frames) (hlo : 14 ≤ R.locals) (cpt : Int32) (SCP : Sta Z Z.heap "java/lang/String" "COMPACT_STRINGS" "Z" (.int cpt)) (hcp : ¬ cpt = 0) (SAD : Sta Z Z.heap "java/lang/StringUTF16" "$assertionsDisabled" "Z" (.int (1 : Int32))) (SHI : Sta Z Z.heap "java/lang/StringUTF16" "HI_BYTE_SHIFT" "I" (.int (0 : Int32))) (SLO : Sta Z Z.heap "java/lang/StringUTF16" "LO_BYTE_SHIFT" "I" (.int (8 : Int32))) (os : List Addr) (src dst : Addr) (zd : dst ∈ os) (ne : src ≠ dst) (cs : List Int32) (hn : cs.length < 2 ^ 28) :
    ∀ (rest pre : List Int32) (h : Heap), cs = pre ++ rest → Al Z h src .char (iv' cs) → Al Z h dst .byte (iv' (u16 pre) ++ List.replicate (2 * rest.length) (.int 0)) →
      (∀ h' : Heap, Keep h h' [dst] → Al Z h' dst .byte (iv' (u16 cs)) → Q (some (.ref dst)) h') → W h os ck cs' 8 #[.val (.ref src), .val (.int (Int32.ofNat pre.length)), .val (.int (Int32.ofNat cs.length)), .val (.ref dst), .val (.int (Int32.ofNat pre.length))] []
  | [], pre, h, e, A, B, K => by
    have e' : pre = cs := by rw [e, List.append_nil]
    subst e'
    show W h os ck cs' 8 #[.val (.ref src), .val (.int (Int32.ofNat pre.length)), .val (.int (Int32.ofNat pre.length)), .val (.ref dst), .val (.int (Int32.ofNat pre.length))] []
    have q : ¬ Int32.ofNat pre.length < Int32.ofNat pre.length := Int32.lt_irrefl
    refine C.iload 10 d21_8 rfl rfl ?_
    refine C.iloadN 11 d21_10 rfl rfl ?_
    refine C.icmpT 32 d21_11 rfl (flt q).2.1 ?_
    refine C.aloadN 33 d21_32 rfl rfl rfl ?_
    exact C.retA (.array .byte) d21_33 rfl rfl rfl hck hcs (K h (Keep.refl _ _) (by simpa using B)) (fun _ q => nomatch q)
  | c :: rest, pre, h, e, A, B, K => by
    have hlen : pre.length < cs.length := by rw [e, List.length_append, List.length_cons]; omega
    have q : Int32.ofNat pre.length < Int32.ofNat cs.length := (o_lt (by omega) (by omega)).mpr hlen
    have hl2 : (iv' (u16 pre) ++ List.replicate (2 * (c :: rest).length) (Value.int 0)).length = 2 * pre.length + 2 * (rest.length + 1) := by simp [u16_len]
    have hcl : cs.length = pre.length + (rest.length + 1) := by rw [e]; simp
    refine C.iload 10 d21_8 rfl rfl ?_
    refine C.iloadN 11 d21_10 rfl rfl ?_
    refine C.icmpF 14 d21_11 rfl (tlt q).2.1 ?_
    refine C.aloadN 15 d21_14 rfl rfl rfl ?_
    refine C.iload 17 d21_15 rfl rfl ?_
    refine C.aloadN 18 d21_17 rfl rfl rfl ?_
    refine C.iloadN 19 d21_18 rfl rfl ?_
    refine C.caload 20 pre.length (.int c) d21_19 rfl A (o_nn (by omega)) (o_cl (by omega)) (by rw [e]; simp) ?_
    refine C.callS 23 (as := [.ref dst, .int (Int32.ofNat pre.length), .int c]) (rest := []) (rm := ⟨0, 0, 0, 0⟩) 0 d21_20 rfl (tw 118) (tw 119) (tw 18) (tw 120) (by decide) (puc l Z a0' hw hEL hSA h cpt SCP hcp SAD SHI SLO dst pre.length c _ (by rw [hl2]; omega) (by rw [hl2]; omega) B) (fun x hx => by rw [List.mem_singleton.mp hx]; exact zd) pd24 rfl rfl (Nat.le_of_eq rfl) hfr (by show 0 + (3 + 11) + 0 ≤ _; omega) hck hcs rfl ?_
    rintro v h1 ⟨rfl, K1, B1⟩
    show W h1 os ck cs' 23 #[.val (.ref src), .val (.int (Int32.ofNat pre.length)), .val (.int (Int32.ofNat cs.length)), .val (.ref dst), .val (.int (Int32.ofNat pre.length))] []
    refine C.iinc 26 #[.val (.ref src), .val (.int ((Int32.ofNat pre.length) + (1 : Int32))), .val (.int (Int32.ofNat cs.length)), .val (.ref dst), .val (.int (Int32.ofNat pre.length))] d21_23 rfl rfl rfl ?_
    refine C.iinc 29 #[.val (.ref src), .val (.int ((Int32.ofNat pre.length) + (1 : Int32))), .val (.int (Int32.ofNat cs.length)), .val (.ref dst), .val (.int ((Int32.ofNat pre.length) + (1 : Int32)))] d21_26 rfl rfl rfl ?_
    have e1 : Int32.ofNat pre.length + (1 : Int32) = Int32.ofNat (pre ++ [c]).length := by rw [List.length_append]; exact o_add pre.length 1
    show W h1 os ck cs' 29 #[.val (.ref src), .val (.int ((Int32.ofNat pre.length) + (1 : Int32))), .val (.int (Int32.ofNat cs.length)), .val (.ref dst), .val (.int ((Int32.ofNat pre.length) + (1 : Int32)))] []
    rw [e1]
    refine C.goto 8 d21_29 rfl ?_
    refine tb_loop C hck hcs hw hEL hSA hfr hlo cpt SCP hcp SAD SHI SLO os src dst zd ne cs hn rest (pre ++ [c]) h1 (by rw [e]; simp) (A.keep K1 (ninS ne nin0)) ?_ (fun h' K' B' => K h' (K1.trans K' (fun x hx => Or.inl hx)) B')
    have e2 : ((iv' (u16 pre) ++ List.replicate (2 * (c :: rest).length) (Value.int 0)).set (2 * pre.length) (.int (b0 c))).set (2 * pre.length + 1) (.int (b1 c)) = iv' (u16 (pre ++ [c])) ++ List.replicate (2 * rest.length) (.int 0) := by
      have hu : (iv' (u16 pre)).length = 2 * pre.length := by simp [u16_len]
      rw [show 2 * (c :: rest).length = 2 * rest.length + 1 + 1 by simp only [List.length_cons]; omega, List.replicate_succ, List.replicate_succ, ← hu, set2, u16_app]
      simp [u16, iv']
    rw [e2] at B1
    exact B1
set_option maxRecDepth 65536 in
set_option maxHeartbeats 40000000 in
theorem tby (l : Launch) (Z : State) (a0' : Array Value) (hw : ∀ d ∈ tables_1, d.before a0' Z = true) (hEL : EW Z a0' EL0) (hSA : ∀ a ∈ Bundle.stringAtoms, a.before a0' Z = true) (h : Heap) (cpt : Int32) (SCP : Sta Z Z.heap "java/lang/String" "COMPACT_STRINGS" "Z" (.int cpt)) (hcp : ¬ cpt = 0) (SAD : Sta Z Z.heap "java/lang/StringUTF16" "$assertionsDisabled" "Z" (.int (1 : Int32))) (SHI : Sta Z Z.heap "java/lang/StringUTF16" "HI_BYTE_SHIFT" "I" (.int (0 : Int32))) (SLO : Sta Z Z.heap "java/lang/StringUTF16" "LO_BYTE_SHIFT" "I" (.int (8 : Int32))) (src : Addr) (cs : List Int32) (hn : cs.length ≤ 4) (A : Al Z h src .char (iv' cs)) :
    Con l Z EL0 (⟨"java/lang/StringUTF16", "toBytes", "([CII)[B"⟩ : MethodName) jdk_52_method_14_code 5 (some (.array .byte)) ⟨2, 1, 8, 24⟩ #[.ref src, .int 0, .int (Int32.ofNat cs.length)] h [] (fun v h' => ∃ b, v = some (.ref b) ∧ h.size ≤ b ∧ Ext h h' ∧ Al Z h' b .byte (iv' (u16 cs))) (fun _ => []) := by
  refine Con.of (Ls := #[.val (.ref src), .val (.int (0 : Int32)), .val (.int (Int32.ofNat cs.length)), .unset, .unset]) hw hEL pn21 (fun m => by first | (simp [entryFrame, mkF, argsToLocals, Value.category, maxLocals]; done) | rfl) fun W C => ?_
  refine C.kept fun hE => ?_
  have z0 : Z.heap.size ≤ h.size := hE.1
  refine C.iloadN 1 d21_0 rfl rfl ?_
  refine C.callS 4 (as := [.int (Int32.ofNat cs.length)]) (rest := []) (rm := ⟨1, 1, 8, 12⟩) 0 d21_1 rfl (tw 111) (tw 112) (tw 18) (tw 113) (by decide) (nbf l Z a0' hw hEL hSA h cs.length hn) (by simp) pd22 rfl rfl (Nat.le_of_eq rfl) (by decide) (by decide) (by decide) (by decide) rfl ?_
  rintro v h1 ⟨b, rfl, gb, E1, B1⟩
  have ne : src ≠ b := by rw [gb]; exact Nat.ne_of_lt A.lt
  show W h1 [b] 1 8 4 #[.val (.ref src), .val (.int (0 : Int32)), .val (.int (Int32.ofNat cs.length)), .unset, .unset] [.ref b]
  refine C.astoreN 5 #[.val (.ref src), .val (.int (0 : Int32)), .val (.int (Int32.ofNat cs.length)), .val (.ref b), .unset] d21_4 rfl rfl rfl ?_
  refine C.iconst 6 (0 : Int32) d21_5 rfl rfl ?_
  refine C.istore 8 #[.val (.ref src), .val (.int (0 : Int32)), .val (.int (Int32.ofNat cs.length)), .val (.ref b), .val (.int (0 : Int32))] d21_6 rfl rfl ?_
  refine tb_loop C (by decide) (by decide) hw hEL hSA (by decide) (by decide) cpt SCP hcp SAD SHI SLO [b] src b (by simp) ne cs (by omega) cs [] h1 rfl (A.ext E1) B1 (fun h' K' B' => ?_)
  have K : Keep h h' [] := ((Keep.refl h []).ext E1).trans K' (fun x hx => Or.inr (by cases List.mem_singleton.mp hx; exact Nat.le_of_eq gb.symm))
  exact ⟨b, rfl, Nat.le_of_eq gb.symm, ⟨K.1, fun x c q => K.2.1 x c q nin0⟩, B'⟩
theorem d25_0 : decode jdk_52_method_5_code 0 = .ok (.getstatic 44, 3) := by decide +kernel
theorem d25_3 : decode jdk_52_method_5_code 3 = .ok (.ifCond .ne 25, 3) := by decide +kernel
theorem d25_6 : decode jdk_52_method_5_code 6 = .ok (.iload_n 1, 1) := by decide +kernel
theorem d25_7 : decode jdk_52_method_5_code 7 = .ok (.ifCond .lt 11, 3) := by decide +kernel
theorem d25_10 : decode jdk_52_method_5_code 10 = .ok (.iload_n 1, 1) := by decide +kernel
theorem d25_11 : decode jdk_52_method_5_code 11 = .ok (.aload_n 0, 1) := by decide +kernel
theorem d25_12 : decode jdk_52_method_5_code 12 = .ok (.invokestatic 48, 3) := by decide +kernel
theorem d25_15 : decode jdk_52_method_5_code 15 = .ok (.if_icmp .lt 13, 3) := by decide +kernel
theorem d25_18 : decode jdk_52_method_5_code 18 = .ok (.new 52, 3) := by decide +kernel
theorem d25_21 : decode jdk_52_method_5_code 21 = .ok (.dup, 1) := by decide +kernel
theorem d25_22 : decode jdk_52_method_5_code 22 = .ok (.ldc 54, 2) := by decide +kernel
theorem d25_24 : decode jdk_52_method_5_code 24 = .ok (.invokespecial 56, 3) := by decide +kernel
theorem d25_27 : decode jdk_52_method_5_code 27 = .ok (.athrow, 1) := by decide +kernel
theorem d25_28 : decode jdk_52_method_5_code 28 = .ok (.iload_n 1, 1) := by decide +kernel
theorem d25_29 : decode jdk_52_method_5_code 29 = .ok (.iconst 1, 1) := by decide +kernel
theorem d25_30 : decode jdk_52_method_5_code 30 = .ok (.ishl, 1) := by decide +kernel
theorem d25_31 : decode jdk_52_method_5_code 31 = .ok (.istore_n 1, 1) := by decide +kernel
theorem d25_32 : decode jdk_52_method_5_code 32 = .ok (.aload_n 0, 1) := by decide +kernel
theorem d25_33 : decode jdk_52_method_5_code 33 = .ok (.iload_n 1, 1) := by decide +kernel
theorem d25_34 : decode jdk_52_method_5_code 34 = .ok (.iinc 1 1, 3) := by decide +kernel
theorem d25_37 : decode jdk_52_method_5_code 37 = .ok (.baload, 1) := by decide +kernel
theorem d25_38 : decode jdk_52_method_5_code 38 = .ok (.sipush 255, 3) := by decide +kernel
theorem d25_41 : decode jdk_52_method_5_code 41 = .ok (.iand, 1) := by decide +kernel
theorem d25_42 : decode jdk_52_method_5_code 42 = .ok (.getstatic 59, 3) := by decide +kernel
theorem d25_45 : decode jdk_52_method_5_code 45 = .ok (.ishl, 1) := by decide +kernel
theorem d25_46 : decode jdk_52_method_5_code 46 = .ok (.aload_n 0, 1) := by decide +kernel
theorem d25_47 : decode jdk_52_method_5_code 47 = .ok (.iload_n 1, 1) := by decide +kernel
theorem d25_48 : decode jdk_52_method_5_code 48 = .ok (.baload, 1) := by decide +kernel
theorem d25_49 : decode jdk_52_method_5_code 49 = .ok (.sipush 255, 3) := by decide +kernel
theorem d25_52 : decode jdk_52_method_5_code 52 = .ok (.iand, 1) := by decide +kernel
theorem d25_53 : decode jdk_52_method_5_code 53 = .ok (.getstatic 63, 3) := by decide +kernel
theorem d25_56 : decode jdk_52_method_5_code 56 = .ok (.ishl, 1) := by decide +kernel
theorem d25_57 : decode jdk_52_method_5_code 57 = .ok (.ior, 1) := by decide +kernel
theorem d25_58 : decode jdk_52_method_5_code 58 = .ok (.i2c, 1) := by decide +kernel
theorem d25_59 : decode jdk_52_method_5_code 59 = .ok (.ireturn, 1) := by decide +kernel
theorem pn25 : plainFor (⟨"java/lang/StringUTF16", "getChar", "([BI)C"⟩ : MethodName) = true := by first | exact plainFor_of_name (by first | (simp [plainName, overriddenIn]; done) | decide +kernel) | decide +kernel
theorem pd25 : parseMethodDescriptor "([BI)C" = some ⟨[(.array .byte), .int], some .char⟩ := by decide +kernel
set_option maxRecDepth 65536 in
set_option maxHeartbeats 40000000 in
theorem gch (l : Launch) (Z : State) (a0' : Array Value) (hw : ∀ d ∈ tables_1, d.before a0' Z = true) (hEL : EW Z a0' EL0) (hSA : ∀ a ∈ Bundle.stringAtoms, a.before a0' Z = true) (h : Heap) (cpt : Int32) (SCP : Sta Z Z.heap "java/lang/String" "COMPACT_STRINGS" "Z" (.int cpt)) (hcp : ¬ cpt = 0) (SAD : Sta Z Z.heap "java/lang/StringUTF16" "$assertionsDisabled" "Z" (.int (1 : Int32))) (SHI : Sta Z Z.heap "java/lang/StringUTF16" "HI_BYTE_SHIFT" "I" (.int (0 : Int32))) (SLO : Sta Z Z.heap "java/lang/StringUTF16" "LO_BYTE_SHIFT" "I" (.int (8 : Int32))) (b : Addr) (cs : List Int32) (i : Nat) (c : Int32) (hn : cs.length < 2 ^ 28) (hi : cs[i]? = some c) (hc : Ch c) (B : Al Z h b .byte (iv' (u16 cs))) :
    Con l Z EL0 (⟨"java/lang/StringUTF16", "getChar", "([BI)C"⟩ : MethodName) jdk_52_method_5_code 2 (some .char) ⟨0, 0, 0, 0⟩ #[.ref b, .int (Int32.ofNat i)] h [] (Same (some (.int c)) h) (fun _ => []) := by
  refine Con.of (Ls := #[.val (.ref b), .val (.int (Int32.ofNat i))]) hw hEL pn25 (fun m => by first | (simp [entryFrame, mkF, argsToLocals, Value.category, maxLocals]; done) | rfl) fun W C => ?_
  refine C.kept fun hE => ?_
  have z0 : Z.heap.size ≤ h.size := hE.1
  have hl : i < cs.length := (List.getElem?_eq_some_iff.mp hi).1
  obtain ⟨g0, g1⟩ := u16_0 cs i c hi
  refine C.getstatic 3 d25_0 rfl (tw 121) SAD ?_
  refine C.ifT 28 d25_3 rfl (by decide) ?_
  refine C.iloadN 29 d25_28 rfl rfl ?_
  refine C.iconst 30 (1 : Int32) d25_29 rfl rfl ?_
  refine C.ishl 31 d25_30 rfl ?_
  rw [o_dbl (by omega)]
  refine C.istoreN 32 #[.val (.ref b), .val (.int (Int32.ofNat (2 * i)))] d25_31 rfl rfl ?_
  refine C.aloadN 33 d25_32 rfl rfl rfl ?_
  refine C.iloadN 34 d25_33 rfl rfl ?_
  have e1 : Int32.ofNat (2 * i) + (1 : Int32) = Int32.ofNat (2 * i + 1) := o_add (2 * i) 1
  refine C.iinc 37 #[.val (.ref b), .val (.int ((Int32.ofNat (2 * i)) + (1 : Int32)))] d25_34 rfl rfl rfl ?_
  show W h [] 0 0 37 #[.val (.ref b), .val (.int ((Int32.ofNat (2 * i)) + (1 : Int32)))] [.int (Int32.ofNat (2 * i)), .ref b]
  rw [e1]
  refine C.baloadB 38 (2 * i) (.int (b0 c)) d25_37 rfl B (o_nn (by omega)) (o_cl (by omega)) (by rw [List.getElem?_map, g0]; rfl) ?_
  refine C.sipush 41 (255 : Int32) d25_38 rfl rfl ?_
  refine C.iand 42 d25_41 rfl ?_
  refine C.getstatic 45 d25_42 rfl (tw 122) SHI ?_
  refine C.ishl 46 d25_45 rfl ?_
  refine C.aloadN 47 d25_46 rfl rfl rfl ?_
  refine C.iloadN 48 d25_47 rfl rfl ?_
  refine C.baloadB 49 (2 * i + 1) (.int (b1 c)) d25_48 rfl B (o_nn (by omega)) (o_cl (by omega)) (by rw [List.getElem?_map, g1]; rfl) ?_
  refine C.sipush 52 (255 : Int32) d25_49 rfl rfl ?_
  refine C.iand 53 d25_52 rfl ?_
  refine C.getstatic 56 d25_53 rfl (tw 123) SLO ?_
  refine C.ishl 57 d25_56 rfl ?_
  refine C.ior 58 d25_57 rfl ?_
  refine C.i2c 59 d25_58 rfl ?_
  rw [gl16 hc]
  exact C.retI .char d25_59 rfl (by simp) (ch_nar hc) (by decide) (by decide) ⟨rfl, rfl⟩ (fun _ q => nomatch q)
theorem d4_0 : decode jdk_52_method_16_code 0 = .ok (.iload_n 2, 1) := by decide +kernel
theorem d4_1 : decode jdk_52_method_16_code 1 = .ok (.newarray .byte, 2) := by decide +kernel
theorem d4_3 : decode jdk_52_method_16_code 3 = .ok (.astore_n 3, 1) := by decide +kernel
theorem d4_4 : decode jdk_52_method_16_code 4 = .ok (.aload_n 0, 1) := by decide +kernel
theorem d4_5 : decode jdk_52_method_16_code 5 = .ok (.iload_n 1, 1) := by decide +kernel
theorem d4_6 : decode jdk_52_method_16_code 6 = .ok (.aload_n 3, 1) := by decide +kernel
theorem d4_7 : decode jdk_52_method_16_code 7 = .ok (.iconst 0, 1) := by decide +kernel
theorem d4_8 : decode jdk_52_method_16_code 8 = .ok (.iload_n 2, 1) := by decide +kernel
theorem d4_9 : decode jdk_52_method_16_code 9 = .ok (.invokestatic 115, 3) := by decide +kernel
theorem d4_12 : decode jdk_52_method_16_code 12 = .ok (.istore 4, 2) := by decide +kernel
theorem d4_14 : decode jdk_52_method_16_code 14 = .ok (.iload 4, 2) := by decide +kernel
theorem d4_16 : decode jdk_52_method_16_code 16 = .ok (.iload_n 2, 1) := by decide +kernel
theorem d4_17 : decode jdk_52_method_16_code 17 = .ok (.if_icmp .eq 40, 3) := by decide +kernel
theorem d4_20 : decode jdk_52_method_16_code 20 = .ok (.aload_n 0, 1) := by decide +kernel
theorem d4_21 : decode jdk_52_method_16_code 21 = .ok (.iload_n 1, 1) := by decide +kernel
theorem d4_22 : decode jdk_52_method_16_code 22 = .ok (.iload_n 2, 1) := by decide +kernel
theorem d4_23 : decode jdk_52_method_16_code 23 = .ok (.invokestatic 119, 3) := by decide +kernel
theorem d4_26 : decode jdk_52_method_16_code 26 = .ok (.astore 5, 2) := by decide +kernel
theorem d4_28 : decode jdk_52_method_16_code 28 = .ok (.aload 5, 2) := by decide +kernel
theorem d4_30 : decode jdk_52_method_16_code 30 = .ok (.iload 4, 2) := by decide +kernel
theorem d4_32 : decode jdk_52_method_16_code 32 = .ok (.invokestatic 71, 3) := by decide +kernel
theorem d4_35 : decode jdk_52_method_16_code 35 = .ok (.sipush 255, 3) := by decide +kernel
theorem d4_38 : decode jdk_52_method_16_code 38 = .ok (.if_icmp .gt 16, 3) := by decide +kernel
theorem d4_41 : decode jdk_52_method_16_code 41 = .ok (.aload 5, 2) := by decide +kernel
theorem d4_43 : decode jdk_52_method_16_code 43 = .ok (.iconst 0, 1) := by decide +kernel
theorem d4_44 : decode jdk_52_method_16_code 44 = .ok (.aload_n 3, 1) := by decide +kernel
theorem d4_45 : decode jdk_52_method_16_code 45 = .ok (.iconst 0, 1) := by decide +kernel
theorem d4_46 : decode jdk_52_method_16_code 46 = .ok (.iload_n 2, 1) := by decide +kernel
theorem d4_47 : decode jdk_52_method_16_code 47 = .ok (.invokestatic 123, 3) := by decide +kernel
theorem d4_50 : decode jdk_52_method_16_code 50 = .ok (.iload_n 2, 1) := by decide +kernel
theorem d4_51 : decode jdk_52_method_16_code 51 = .ok (.if_icmp .eq 6, 3) := by decide +kernel
theorem d4_54 : decode jdk_52_method_16_code 54 = .ok (.aload 5, 2) := by decide +kernel
theorem d4_56 : decode jdk_52_method_16_code 56 = .ok (.areturn, 1) := by decide +kernel
theorem d4_57 : decode jdk_52_method_16_code 57 = .ok (.aload_n 3, 1) := by decide +kernel
theorem d4_58 : decode jdk_52_method_16_code 58 = .ok (.areturn, 1) := by decide +kernel
theorem pn4 : plainFor (⟨"java/lang/StringUTF16", "compress", "([CII)[B"⟩ : MethodName) = true := by first | exact plainFor_of_name (by first | (simp [plainName, overriddenIn]; done) | decide +kernel) | decide +kernel
theorem pd4 : parseMethodDescriptor "([CII)[B" = some ⟨[(.array .char), .int, .int], some (.array .byte)⟩ := by decide +kernel
set_option maxRecDepth 65536 in
set_option maxHeartbeats 40000000 in
theorem c3 (l : Launch) (Z : State) (a0' : Array Value) (hw : ∀ d ∈ tables_1, d.before a0' Z = true) (hEL : EW Z a0' EL0) (hSA : ∀ a ∈ Bundle.stringAtoms, a.before a0' Z = true) (h : Heap) (cpt : Int32) (SCP : Sta Z Z.heap "java/lang/String" "COMPACT_STRINGS" "Z" (.int cpt)) (hcp : ¬ cpt = 0) (SAD : Sta Z Z.heap "java/lang/StringUTF16" "$assertionsDisabled" "Z" (.int (1 : Int32))) (SHI : Sta Z Z.heap "java/lang/StringUTF16" "HI_BYTE_SHIFT" "I" (.int (0 : Int32))) (SLO : Sta Z Z.heap "java/lang/StringUTF16" "LO_BYTE_SHIFT" "I" (.int (8 : Int32))) (src : Addr) (cs : List Int32) (hn : cs.length ≤ 4) (hch : ∀ c ∈ cs, Ch c) (A : Al Z h src .char (iv' cs)) :
    Con l Z EL0 (⟨"java/lang/StringUTF16", "compress", "([CII)[B"⟩ : MethodName) jdk_52_method_16_code 6 (some (.array .byte)) ⟨3, 2, 12, 60⟩ #[.ref src, .int 0, .int (Int32.ofNat cs.length)] h [] (fun v h' => ∃ b, v = some (.ref b) ∧ h.size ≤ b ∧ Ext h h' ∧ Al Z h' b .byte (iv' (enc cs))) (fun _ => []) := by
  refine Con.of (Ls := #[.val (.ref src), .val (.int (0 : Int32)), .val (.int (Int32.ofNat cs.length)), .unset, .unset, .unset]) hw hEL pn4 (fun m => by first | (simp [entryFrame, mkF, argsToLocals, Value.category, maxLocals]; done) | rfl) fun W C => ?_
  refine C.kept fun hE => ?_
  have z0 : Z.heap.size ≤ h.size := hE.1
  refine C.iloadN 1 d4_0 rfl rfl ?_
  refine C.newarray 3 4 d4_1 rfl (tw 20) (o_nn (by omega)) (by rw [o_cl (by omega)]; exact hn) (by decide) (by decide) (by decide) ?_
  intro h1 E1 B1
  rw [o_cl (by omega)] at B1
  obtain ⟨b, gb⟩ : ∃ z, z = h.size := ⟨_, rfl⟩
  rw [← gb] at B1 ⊢
  have ne : src ≠ b := by rw [gb]; exact Nat.ne_of_lt A.lt
  show W h1 [b] 1 4 3 #[.val (.ref src), .val (.int (0 : Int32)), .val (.int (Int32.ofNat cs.length)), .unset, .unset, .unset] [.ref b]
  refine C.astoreN 4 #[.val (.ref src), .val (.int (0 : Int32)), .val (.int (Int32.ofNat cs.length)), .val (.ref b), .unset, .unset] d4_3 rfl rfl rfl ?_
  refine C.aloadN 5 d4_4 rfl rfl rfl ?_
  refine C.iloadN 6 d4_5 rfl rfl ?_
  refine C.aloadN 7 d4_6 rfl rfl rfl ?_
  refine C.iconst 8 (0 : Int32) d4_7 rfl rfl ?_
  refine C.iloadN 9 d4_8 rfl rfl ?_
  refine C.callS 12 (as := [.ref src, .int (0 : Int32), .ref b, .int (0 : Int32), .int (Int32.ofNat cs.length)]) (rest := []) (rm := ⟨0, 0, 0, 0⟩) 0 d4_9 rfl (tw 21) (tw 22) (tw 18) (tw 23) (by decide) (c5 l Z a0' hw hEL hSA h1 src b ne cs (by omega) (A.ext E1) B1) (by simp) pd5 rfl rfl (Nat.le_of_eq rfl) (by decide) (by decide) (by decide) (by decide) rfl ?_
  rintro v h2 ⟨K2, ⟨rfl, hl, B2⟩ | ⟨r, c, rfl, hg, hc⟩⟩
  all_goals have K : Keep h h2 [] := ((Keep.refl h []).ext E1).trans K2 (fun x hx => Or.inr (by cases List.mem_singleton.mp hx; exact Nat.le_of_eq gb.symm))
  all_goals have E : Ext h h2 := ⟨K.1, fun x c q => K.2.1 x c q nin0⟩
  · show W h2 [b] 1 4 12 #[.val (.ref src), .val (.int (0 : Int32)), .val (.int (Int32.ofNat cs.length)), .val (.ref b), .unset, .unset] [.int (Int32.ofNat cs.length)]
    refine C.istore 14 #[.val (.ref src), .val (.int (0 : Int32)), .val (.int (Int32.ofNat cs.length)), .val (.ref b), .val (.int (Int32.ofNat cs.length)), .unset] d4_12 rfl rfl ?_
    refine C.iload 16 d4_14 rfl rfl ?_
    refine C.iloadN 17 d4_16 rfl rfl ?_
    refine C.icmpT 57 d4_17 rfl (teq rfl).1 ?_
    refine C.aloadN 58 d4_57 rfl rfl rfl ?_
    exact C.retA (.array .byte) d4_58 rfl rfl rfl (by decide) (by decide) ⟨b, rfl, Nat.le_of_eq gb.symm, E, by rw [enc_l hl]; exact B2⟩ (fun _ q => nomatch q)
  · have hl : ¬ lat cs := fun z => z c (List.mem_of_getElem? hg) hc
    have hr : r < cs.length := (List.getElem?_eq_some_iff.mp hg).1
    show W h2 [b] 1 4 12 #[.val (.ref src), .val (.int (0 : Int32)), .val (.int (Int32.ofNat cs.length)), .val (.ref b), .unset, .unset] [.int (Int32.ofNat r)]
    refine C.istore 14 #[.val (.ref src), .val (.int (0 : Int32)), .val (.int (Int32.ofNat cs.length)), .val (.ref b), .val (.int (Int32.ofNat r)), .unset] d4_12 rfl rfl ?_
    refine C.iload 16 d4_14 rfl rfl ?_
    refine C.iloadN 17 d4_16 rfl rfl ?_
    have q : ¬ Int32.ofNat r = Int32.ofNat cs.length := fun z => absurd (o_inj (by omega) (by omega) z) (by omega)
    refine C.icmpF 20 d4_17 rfl (feq q).1 ?_
    refine C.aloadN 21 d4_20 rfl rfl rfl ?_
    refine C.iloadN 22 d4_21 rfl rfl ?_
    refine C.iloadN 23 d4_22 rfl rfl ?_
    refine C.callS 26 (as := [.ref src, .int (0 : Int32), .int (Int32.ofNat cs.length)]) (rest := []) (rm := ⟨2, 1, 8, 24⟩) 0 d4_23 rfl (tw 108) (tw 109) (tw 18) (tw 110) (by decide) (tby l Z a0' hw hEL hSA h2 cpt SCP hcp SAD SHI SLO src cs hn (A.ext E)) (by simp) pd21 rfl rfl (Nat.le_of_eq rfl) (by decide) (by decide) (by decide) (by decide) rfl ?_
    rintro v h3 ⟨b2, rfl, g3, E3, B3⟩
    show W h3 [b] 2 12 26 #[.val (.ref src), .val (.int (0 : Int32)), .val (.int (Int32.ofNat cs.length)), .val (.ref b), .val (.int (Int32.ofNat r)), .unset] [.ref b2]
    refine C.astore 28 #[.val (.ref src), .val (.int (0 : Int32)), .val (.int (Int32.ofNat cs.length)), .val (.ref b), .val (.int (Int32.ofNat r)), .val (.ref b2)] d4_26 rfl rfl rfl ?_
    refine C.aload 30 d4_28 rfl rfl rfl ?_
    refine C.iload 32 d4_30 rfl rfl ?_
    refine C.callS 35 (as := [.ref b2, .int (Int32.ofNat r)]) (rest := []) (rm := ⟨0, 0, 0, 0⟩) 0 d4_32 rfl (tw 124) (tw 125) (tw 18) (tw 126) (by decide) (gch l Z a0' hw hEL hSA h3 cpt SCP hcp SAD SHI SLO b2 cs r c (by omega) hg (hch c (List.mem_of_getElem? hg)) B3) (by simp) pd25 rfl rfl (Nat.le_of_eq rfl) (by decide) (by decide) (by decide) (by decide) rfl ?_
    refine same_intro ?_
    show W h3 [b] 2 12 35 #[.val (.ref src), .val (.int (0 : Int32)), .val (.int (Int32.ofNat cs.length)), .val (.ref b), .val (.int (Int32.ofNat r)), .val (.ref b2)] [.int c]
    refine C.sipush 38 (255 : Int32) d4_35 rfl rfl ?_
    refine C.icmpT 54 d4_38 rfl (tlt hc).2.2.1 ?_
    refine C.aload 56 d4_54 rfl rfl rfl ?_
    exact C.retA (.array .byte) d4_56 rfl rfl rfl (by decide) (by decide) ⟨b2, rfl, Nat.le_trans E.1 g3, ⟨Nat.le_trans E.1 E3.1, fun x c q => E3.2 x c (E.2 x c q)⟩, by rw [enc_u hl]; exact B3⟩ (fun _ q => nomatch q)
theorem d6_0 : decode jdk_52_method_15_code 0 = .ok (.iload_n 1, 1) := by decide +kernel
theorem d6_1 : decode jdk_52_method_15_code 1 = .ok (.aload_n 0, 1) := by decide +kernel
theorem d6_2 : decode jdk_52_method_15_code 2 = .ok (.arraylength, 1) := by decide +kernel
theorem d6_3 : decode jdk_52_method_15_code 3 = .ok (.isub, 1) := by decide +kernel
theorem d6_4 : decode jdk_52_method_15_code 4 = .ok (.bipush 31, 2) := by decide +kernel
theorem d6_6 : decode jdk_52_method_15_code 6 = .ok (.iushr, 1) := by decide +kernel
theorem d6_7 : decode jdk_52_method_15_code 7 = .ok (.i2b, 1) := by decide +kernel
theorem d6_8 : decode jdk_52_method_15_code 8 = .ok (.ireturn, 1) := by decide +kernel
theorem pn6 : plainFor (⟨"java/lang/StringUTF16", "coderFromArrayLen", "([BI)B"⟩ : MethodName) = true := by first | exact plainFor_of_name (by first | (simp [plainName, overriddenIn]; done) | decide +kernel) | decide +kernel
theorem pd6 : parseMethodDescriptor "([BI)B" = some ⟨[(.array .byte), .int], some .byte⟩ := by decide +kernel
set_option maxRecDepth 65536 in
set_option maxHeartbeats 40000000 in
theorem cfa (l : Launch) (Z : State) (a0' : Array Value) (hw : ∀ d ∈ tables_1, d.before a0' Z = true) (hEL : EW Z a0' EL0) (hSA : ∀ a ∈ Bundle.stringAtoms, a.before a0' Z = true) (h : Heap) (b : Addr) (cs : List Int32) (hn : cs.length < 2 ^ 28) (h0 : cs.length ≠ 0) (B : Al Z h b .byte (iv' (enc cs))) :
    Con l Z EL0 (⟨"java/lang/StringUTF16", "coderFromArrayLen", "([BI)B"⟩ : MethodName) jdk_52_method_15_code 2 (some .byte) ⟨0, 0, 0, 0⟩ #[.ref b, .int (Int32.ofNat cs.length)] h [] (Same (some (.int (cod cs))) h) (fun _ => []) := by
  refine Con.of (Ls := #[.val (.ref b), .val (.int (Int32.ofNat cs.length))]) hw hEL pn6 (fun m => by first | (simp [entryFrame, mkF, argsToLocals, Value.category, maxLocals]; done) | rfl) fun W C => ?_
  refine C.kept fun hE => ?_
  have z0 : Z.heap.size ≤ h.size := hE.1
  refine C.iloadN 1 d6_0 rfl rfl ?_
  refine C.aloadN 2 d6_1 rfl rfl rfl ?_
  by_cases hl : lat cs
  · rw [enc_l hl] at B
    refine C.arraylength 3 (Int32.ofNat cs.length) d6_2 rfl B (by simp) ?_
    refine C.isub 4 d6_3 rfl ?_
    rw [Int32.sub_self]
    refine C.bipush 6 (31 : Int32) d6_4 rfl rfl ?_
    refine C.iushr 7 d6_6 rfl ?_
    refine C.i2b 8 d6_7 rfl ?_
    show W h [] 0 0 8 #[.val (.ref b), .val (.int (Int32.ofNat cs.length))] [.int (0 : Int32)]
    exact C.retI .byte d6_8 rfl (by simp) rfl (by decide) (by decide) ⟨by rw [cod_l hl], rfl⟩ (fun _ q => nomatch q)
  · rw [enc_u hl] at B
    refine C.arraylength 3 (Int32.ofNat (2 * cs.length)) d6_2 rfl B (by simp [u16_len]) ?_
    refine C.isub 4 d6_3 rfl ?_
    refine C.bipush 6 (31 : Int32) d6_4 rfl rfl ?_
    refine C.iushr 7 d6_6 rfl ?_
    refine C.i2b 8 d6_7 rfl ?_
    rw [o_cfu (by omega) h0]
    exact C.retI .byte d6_8 rfl (by simp) rfl (by decide) (by decide) ⟨by rw [cod_u hl], rfl⟩ (fun _ q => nomatch q)
theorem d2_0 : decode jdk_42_method_149_code 0 = .ok (.aload_n 0, 1) := by decide +kernel
theorem d2_1 : decode jdk_42_method_149_code 1 = .ok (.invokespecial 1, 3) := by decide +kernel
theorem d2_4 : decode jdk_42_method_149_code 4 = .ok (.iload_n 3, 1) := by decide +kernel
theorem d2_5 : decode jdk_42_method_149_code 5 = .ok (.ifCond .ne 22, 3) := by decide +kernel
theorem d2_8 : decode jdk_42_method_149_code 8 = .ok (.aload_n 0, 1) := by decide +kernel
theorem d2_9 : decode jdk_42_method_149_code 9 = .ok (.ldc 7, 2) := by decide +kernel
theorem d2_11 : decode jdk_42_method_149_code 11 = .ok (.getfield 9, 3) := by decide +kernel
theorem d2_14 : decode jdk_42_method_149_code 14 = .ok (.putfield 9, 3) := by decide +kernel
theorem d2_17 : decode jdk_42_method_149_code 17 = .ok (.aload_n 0, 1) := by decide +kernel
theorem d2_18 : decode jdk_42_method_149_code 18 = .ok (.ldc 7, 2) := by decide +kernel
theorem d2_20 : decode jdk_42_method_149_code 20 = .ok (.getfield 15, 3) := by decide +kernel
theorem d2_23 : decode jdk_42_method_149_code 23 = .ok (.putfield 15, 3) := by decide +kernel
theorem d2_26 : decode jdk_42_method_149_code 26 = .ok (.return_, 1) := by decide +kernel
theorem d2_27 : decode jdk_42_method_149_code 27 = .ok (.getstatic 38, 3) := by decide +kernel
theorem d2_30 : decode jdk_42_method_149_code 30 = .ok (.ifCond .eq 28, 3) := by decide +kernel
theorem d2_33 : decode jdk_42_method_149_code 33 = .ok (.aload_n 1, 1) := by decide +kernel
theorem d2_34 : decode jdk_42_method_149_code 34 = .ok (.iload_n 2, 1) := by decide +kernel
theorem d2_35 : decode jdk_42_method_149_code 35 = .ok (.iload_n 3, 1) := by decide +kernel
theorem d2_36 : decode jdk_42_method_149_code 36 = .ok (.invokestatic 177, 3) := by decide +kernel
theorem d2_39 : decode jdk_42_method_149_code 39 = .ok (.astore 5, 2) := by decide +kernel
theorem d2_41 : decode jdk_42_method_149_code 41 = .ok (.aload_n 0, 1) := by decide +kernel
theorem d2_42 : decode jdk_42_method_149_code 42 = .ok (.aload 5, 2) := by decide +kernel
theorem d2_44 : decode jdk_42_method_149_code 44 = .ok (.iload_n 3, 1) := by decide +kernel
theorem d2_45 : decode jdk_42_method_149_code 45 = .ok (.invokestatic 47, 3) := by decide +kernel
theorem d2_48 : decode jdk_42_method_149_code 48 = .ok (.putfield 15, 3) := by decide +kernel
theorem d2_51 : decode jdk_42_method_149_code 51 = .ok (.aload_n 0, 1) := by decide +kernel
theorem d2_52 : decode jdk_42_method_149_code 52 = .ok (.aload 5, 2) := by decide +kernel
theorem d2_54 : decode jdk_42_method_149_code 54 = .ok (.putfield 9, 3) := by decide +kernel
theorem d2_57 : decode jdk_42_method_149_code 57 = .ok (.return_, 1) := by decide +kernel
theorem d2_58 : decode jdk_42_method_149_code 58 = .ok (.aload_n 0, 1) := by decide +kernel
theorem d2_59 : decode jdk_42_method_149_code 59 = .ok (.iconst 1, 1) := by decide +kernel
theorem d2_60 : decode jdk_42_method_149_code 60 = .ok (.putfield 15, 3) := by decide +kernel
theorem d2_63 : decode jdk_42_method_149_code 63 = .ok (.aload_n 0, 1) := by decide +kernel
theorem d2_64 : decode jdk_42_method_149_code 64 = .ok (.aload_n 1, 1) := by decide +kernel
theorem d2_65 : decode jdk_42_method_149_code 65 = .ok (.iload_n 2, 1) := by decide +kernel
theorem d2_66 : decode jdk_42_method_149_code 66 = .ok (.iload_n 3, 1) := by decide +kernel
theorem d2_67 : decode jdk_42_method_149_code 67 = .ok (.invokestatic 180, 3) := by decide +kernel
theorem d2_70 : decode jdk_42_method_149_code 70 = .ok (.putfield 9, 3) := by decide +kernel
theorem d2_73 : decode jdk_42_method_149_code 73 = .ok (.return_, 1) := by decide +kernel
theorem pn2 : plainFor (⟨"java/lang/String", "<init>", "([CIILjava/lang/Void;)V"⟩ : MethodName) = true := by first | exact plainFor_of_name (by first | (simp [plainName, overriddenIn]; done) | decide +kernel) | decide +kernel
theorem pd2 : parseMethodDescriptor "([CIILjava/lang/Void;)V" = some ⟨[(.array .char), .int, .int, (.object "java/lang/Void")], none⟩ := by decide +kernel
set_option maxRecDepth 65536 in
set_option maxHeartbeats 40000000 in
theorem si4 (l : Launch) (Z : State) (a0' : Array Value) (hw : ∀ d ∈ tables_1, d.before a0' Z = true) (hEL : EW Z a0' EL0) (hSA : ∀ a ∈ Bundle.stringAtoms, a.before a0' Z = true) (h : Heap) (a src : Addr) (cpt : Int32) (SCP : Sta Z Z.heap "java/lang/String" "COMPACT_STRINGS" "Z" (.int cpt)) (hcp : ¬ cpt = 0) (SAD : Sta Z Z.heap "java/lang/StringUTF16" "$assertionsDisabled" "Z" (.int (1 : Int32))) (SHI : Sta Z Z.heap "java/lang/StringUTF16" "HI_BYTE_SHIFT" "I" (.int (0 : Int32))) (SLO : Sta Z Z.heap "java/lang/StringUTF16" "LO_BYTE_SHIFT" "I" (.int (8 : Int32))) (cs : List Int32) (hn : cs.length ≤ 4) (h0 : cs.length ≠ 0) (hch : ∀ c ∈ cs, Ch c) (E : Exa Z h a "java/lang/String") (FV : Fld Z h a "java/lang/String" "value" "[B" .null) (FC : Fld Z h a "java/lang/String" "coder" "B" (.int 0)) (A : Al Z h src .char (iv' cs)) :
    Con l Z EL0 (⟨"java/lang/String", "<init>", "([CIILjava/lang/Void;)V"⟩ : MethodName) jdk_42_method_149_code 6 none ⟨4, 2, 12, 77⟩ #[.ref a, .ref src, .int 0, .int (Int32.ofNat cs.length), .null] h [a] (fun v h' => ∃ b, v = none ∧ b ≠ a ∧ Keep h h' [a] ∧ Str Z h' a b cs) (fun _ => []) := by
  refine Con.of (Ls := #[.val (.ref a), .val (.ref src), .val (.int (0 : Int32)), .val (.int (Int32.ofNat cs.length)), .val (.null), .unset]) hw hEL pn2 (fun m => by first | (simp [entryFrame, mkF, argsToLocals, Value.category, maxLocals]; done) | rfl) fun W C => ?_
  refine C.kept fun hE => ?_
  have z0 : Z.heap.size ≤ h.size := hE.1
  refine C.aloadN 1 d2_0 rfl rfl rfl ?_
  refine C.initObj 4 0 d2_1 rfl (tw 12) (tw 13) (tw 14) rfl (by decide) (Nat.le_of_eq rfl) (by decide) ?_
  refine C.iloadN 5 d2_4 rfl rfl ?_
  refine C.ifT 27 d2_5 rfl ((if0 _ _).trans (feq (o_ne (by omega) h0)).2) ?_
  refine C.getstatic 30 d2_27 rfl (tw 15) SCP ?_
  refine C.ifF 33 d2_30 rfl ((if0 _ _).trans (feq hcp).1) ?_
  refine C.aloadN 34 d2_33 rfl rfl rfl ?_
  refine C.iloadN 35 d2_34 rfl rfl ?_
  refine C.iloadN 36 d2_35 rfl rfl ?_
  refine C.callS 39 (as := [.ref src, .int (0 : Int32), .int (Int32.ofNat cs.length)]) (rest := []) (rm := ⟨3, 2, 12, 60⟩) 0 d2_36 rfl (tw 16) (tw 17) (tw 18) (tw 19) (by decide) (c3 l Z a0' hw hEL hSA h cpt SCP hcp SAD SHI SLO src cs hn hch A) (by simp) pd4 rfl rfl (Nat.le_of_eq rfl) (by decide) (by decide) (by decide) (by decide) rfl ?_
  rintro v h1 ⟨b, rfl, gb, E1, B1⟩
  have z1 : Z.heap.size ≤ h1.size := Nat.le_trans z0 E1.1
  have nab : a ≠ b := Nat.ne_of_lt (Nat.lt_of_lt_of_le E.lt gb)
  show W h1 [a] 2 12 39 #[.val (.ref a), .val (.ref src), .val (.int (0 : Int32)), .val (.int (Int32.ofNat cs.length)), .val (.null), .unset] [.ref b]
  refine C.astore 41 #[.val (.ref a), .val (.ref src), .val (.int (0 : Int32)), .val (.int (Int32.ofNat cs.length)), .val (.null), .val (.ref b)] d2_39 rfl rfl rfl ?_
  refine C.aloadN 42 d2_41 rfl rfl rfl ?_
  refine C.aload 44 d2_42 rfl rfl rfl ?_
  refine C.iloadN 45 d2_44 rfl rfl ?_
  refine C.callS 48 (as := [.ref b, .int (Int32.ofNat cs.length)]) (rest := [.ref a]) (rm := ⟨0, 0, 0, 0⟩) 1 d2_45 rfl (tw 24) (tw 25) (tw 18) (tw 26) (by decide) (cfa l Z a0' hw hEL hSA h1 b cs (by omega) h0 B1) (by simp) pd6 rfl rfl (Nat.le_of_eq rfl) (by decide) (by decide) (by decide) (by decide) rfl ?_
  refine same_intro ?_
  show W h1 [a] 2 12 48 #[.val (.ref a), .val (.ref src), .val (.int (0 : Int32)), .val (.int (Int32.ofNat cs.length)), .val (.null), .val (.ref b)] [.int (cod cs), .ref a]
  have FC1 := FC.ext E1
  have FV1 := FV.ext E1
  have X1 := E.ext E1
  have cod01 : cod cs = 0 ∨ cod cs = 1 := by unfold cod; split <;> simp
  have nb : narrow .byte (.int (cod cs)) = .int (cod cs) := by rcases cod01 with q | q <;> rw [q] <;> rfl
  have fb : fits .byte (.int (cod cs)) = true := by rcases cod01 with q | q <;> rw [q] <;> rfl
  refine C.putfield 51 (v' := .int (cod cs)) .byte d2_48 rfl (tw 27) Via.refl FC1 X1 (Or.inr ⟨(tw 28), rfl, rfl⟩) (tw 3) (by decide) nb fb (by simp) ?_
  intro h2 W2
  have z2 : Z.heap.size ≤ h2.size := by rw [W2.size]; exact z1
  refine C.aloadN 52 d2_51 rfl rfl rfl ?_
  refine C.aload 54 d2_52 rfl rfl rfl ?_
  have FV2 := FV1.other W2 (Or.inr (slot_ne (Or.inr (hw _ (tw 30))) (Or.inr (hw _ (tw 28))) (by decide) (t := (.array .byte)) (t' := .byte) (by decide) (by decide)))
  refine C.putfield 57 (v' := .ref b) (.array .byte) d2_54 rfl (tw 29) Via.refl FV2 (X1.wr W2) (Or.inr ⟨(tw 30), rfl, rfl⟩) (tw 3) (by decide) rfl rfl (by simp) ?_
  intro h3 W3
  have z3 : Z.heap.size ≤ h3.size := by rw [W3.size]; exact z2
  have FC3 := (FC1.same W2).other W3 (Or.inr (slot_ne (Or.inr (hw _ (tw 28))) (Or.inr (hw _ (tw 30))) (by decide) (t := .byte) (t' := (.array .byte)) (by decide) (by decide)))
  have B3 := (B1.keep (Keep.of_wr W2) (ninS nab.symm nin0)).keep (Keep.of_wr W3) (ninS nab.symm nin0)
  exact C.ret0 d2_57 rfl (by decide) (by decide) ⟨b, rfl, nab.symm, (((Keep.refl h [a]).ext E1).wr W2 (Or.inl (List.mem_of_getElem? (i := 0) rfl))).wr W3 (Or.inl (List.mem_of_getElem? (i := 0) rfl)), (X1.wr W2).wr W3, FV2.same W3, FC3, B3⟩ (fun _ q => nomatch q)
theorem d1_0 : decode jdk_42_method_3_code 0 = .ok (.aload_n 0, 1) := by decide +kernel
theorem d1_1 : decode jdk_42_method_3_code 1 = .ok (.aload_n 1, 1) := by decide +kernel
theorem d1_2 : decode jdk_42_method_3_code 2 = .ok (.iconst 0, 1) := by decide +kernel
theorem d1_3 : decode jdk_42_method_3_code 3 = .ok (.aload_n 1, 1) := by decide +kernel
theorem d1_4 : decode jdk_42_method_3_code 4 = .ok (.arraylength, 1) := by decide +kernel
theorem d1_5 : decode jdk_42_method_3_code 5 = .ok (.aconst_null, 1) := by decide +kernel
theorem d1_6 : decode jdk_42_method_3_code 6 = .ok (.invokespecial 27, 3) := by decide +kernel
theorem d1_9 : decode jdk_42_method_3_code 9 = .ok (.return_, 1) := by decide +kernel
theorem pn1 : plainFor (⟨"java/lang/String", "<init>", "([C)V"⟩ : MethodName) = true := by first | exact plainFor_of_name (by first | (simp [plainName, overriddenIn]; done) | decide +kernel) | decide +kernel
theorem pd1 : parseMethodDescriptor "([C)V" = some ⟨[(.array .char)], none⟩ := by decide +kernel
set_option maxRecDepth 65536 in
set_option maxHeartbeats 40000000 in
theorem si1 (l : Launch) (Z : State) (a0' : Array Value) (hw : ∀ d ∈ tables_1, d.before a0' Z = true) (hEL : EW Z a0' EL0) (hSA : ∀ a ∈ Bundle.stringAtoms, a.before a0' Z = true) (h : Heap) (a src : Addr) (cpt : Int32) (SCP : Sta Z Z.heap "java/lang/String" "COMPACT_STRINGS" "Z" (.int cpt)) (hcp : ¬ cpt = 0) (SAD : Sta Z Z.heap "java/lang/StringUTF16" "$assertionsDisabled" "Z" (.int (1 : Int32))) (SHI : Sta Z Z.heap "java/lang/StringUTF16" "HI_BYTE_SHIFT" "I" (.int (0 : Int32))) (SLO : Sta Z Z.heap "java/lang/StringUTF16" "LO_BYTE_SHIFT" "I" (.int (8 : Int32))) (cs : List Int32) (hn : cs.length ≤ 4) (h0 : cs.length ≠ 0) (hch : ∀ c ∈ cs, Ch c) (E : Exa Z h a "java/lang/String") (FV : Fld Z h a "java/lang/String" "value" "[B" .null) (FC : Fld Z h a "java/lang/String" "coder" "B" (.int 0)) (A : Al Z h src .char (iv' cs)) :
    Con l Z EL0 (⟨"java/lang/String", "<init>", "([C)V"⟩ : MethodName) jdk_42_method_3_code 2 none ⟨5, 2, 12, 94⟩ #[.ref a, .ref src] h [a] (fun v h' => ∃ b, v = none ∧ b ≠ a ∧ Keep h h' [a] ∧ Str Z h' a b cs) (fun _ => []) := by
  refine Con.of (Ls := #[.val (.ref a), .val (.ref src)]) hw hEL pn1 (fun m => by first | (simp [entryFrame, mkF, argsToLocals, Value.category, maxLocals]; done) | rfl) fun W C => ?_
  refine C.kept fun hE => ?_
  have z0 : Z.heap.size ≤ h.size := hE.1
  refine C.aloadN 1 d1_0 rfl rfl rfl ?_
  refine C.aloadN 2 d1_1 rfl rfl rfl ?_
  refine C.iconst 3 (0 : Int32) d1_2 rfl rfl ?_
  refine C.aloadN 4 d1_3 rfl rfl rfl ?_
  refine C.arraylength 5 (Int32.ofNat cs.length) d1_4 rfl A (by simp) ?_
  refine C.aconstNull 6 d1_5 rfl ?_
  refine C.callI 9 (a := a) (as := [.ref src, .int (0 : Int32), .int (Int32.ofNat cs.length), .null]) (rest := []) (rm := ⟨4, 2, 12, 77⟩) 0 d1_6 rfl rfl rfl (tw 8) (tw 9) (tw 4) (tw 11) (by decide) (si4 l Z a0' hw hEL hSA h a src cpt SCP hcp SAD SHI SLO cs hn h0 hch E FV FC A) (by simp) pd2 rfl rfl (Nat.le_of_eq rfl) (by decide) (by decide) (by decide) (by decide) rfl ?_
  rintro v h1 ⟨b, rfl, gb, K1, S1⟩
  show W h1 [a] 2 12 9 #[.val (.ref a), .val (.ref src)] []
  exact C.ret0 d1_9 rfl (by decide) (by decide) ⟨b, rfl, gb, K1, S1⟩ (fun _ q => nomatch q)
theorem d13_0 : decode jdk_42_method_152_code 0 = .ok (.getstatic 38, 3) := by decide +kernel
theorem d13_3 : decode jdk_42_method_152_code 3 = .ok (.ifCond .eq 10, 3) := by decide +kernel
theorem d13_6 : decode jdk_42_method_152_code 6 = .ok (.aload_n 0, 1) := by decide +kernel
theorem d13_7 : decode jdk_42_method_152_code 7 = .ok (.getfield 15, 3) := by decide +kernel
theorem d13_10 : decode jdk_42_method_152_code 10 = .ok (.goto 4, 3) := by decide +kernel
theorem d13_13 : decode jdk_42_method_152_code 13 = .ok (.iconst 1, 1) := by decide +kernel
theorem d13_14 : decode jdk_42_method_152_code 14 = .ok (.ireturn, 1) := by decide +kernel
theorem pn13 : plainFor (⟨"java/lang/String", "coder", "()B"⟩ : MethodName) = true := by first | exact plainFor_of_name (by first | (simp [plainName, overriddenIn]; done) | decide +kernel) | decide +kernel
theorem pd13 : parseMethodDescriptor "()B" = some ⟨[], some .byte⟩ := by decide +kernel
set_option maxRecDepth 65536 in
set_option maxHeartbeats 40000000 in
theorem sco (l : Launch) (Z : State) (a0' : Array Value) (hw : ∀ d ∈ tables_1, d.before a0' Z = true) (hEL : EW Z a0' EL0) (hSA : ∀ a ∈ Bundle.stringAtoms, a.before a0' Z = true) (h : Heap) (cpt : Int32) (SCP : Sta Z Z.heap "java/lang/String" "COMPACT_STRINGS" "Z" (.int cpt)) (hcp : ¬ cpt = 0) (SAD : Sta Z Z.heap "java/lang/StringUTF16" "$assertionsDisabled" "Z" (.int (1 : Int32))) (SHI : Sta Z Z.heap "java/lang/StringUTF16" "HI_BYTE_SHIFT" "I" (.int (0 : Int32))) (SLO : Sta Z Z.heap "java/lang/StringUTF16" "LO_BYTE_SHIFT" "I" (.int (8 : Int32))) (a b : Addr) (cs : List Int32) (T : Str Z h a b cs) :
    Con l Z EL0 (⟨"java/lang/String", "coder", "()B"⟩ : MethodName) jdk_42_method_152_code 1 (some .byte) ⟨0, 0, 0, 0⟩ #[.ref a] h [] (Same (some (.int (cod cs))) h) (fun _ => []) := by
  refine Con.of (Ls := #[.val (.ref a)]) hw hEL pn13 (fun m => by first | (simp [entryFrame, mkF, argsToLocals, Value.category, maxLocals]; done) | rfl) fun W C => ?_
  refine C.kept fun hE => ?_
  have z0 : Z.heap.size ≤ h.size := hE.1
  refine C.getstatic 3 d13_0 rfl (tw 15) SCP ?_
  refine C.ifF 6 d13_3 rfl ((if0 _ _).trans (feq hcp).1) ?_
  refine C.aloadN 7 d13_6 rfl rfl rfl ?_
  refine C.getfield 10 d13_7 rfl (tw 27) Via.refl T.2.2.1 ?_
  refine C.goto 14 d13_10 rfl ?_
  have nb := cod_nar cs
  exact C.retI .byte d13_14 rfl (by simp) nb (by decide) (by decide) ⟨rfl, rfl⟩ (fun _ q => nomatch q)
theorem d12_0 : decode jdk_42_method_54_code 0 = .ok (.aload_n 0, 1) := by decide +kernel
theorem d12_1 : decode jdk_42_method_54_code 1 = .ok (.getfield 9, 3) := by decide +kernel
theorem d12_4 : decode jdk_42_method_54_code 4 = .ok (.arraylength, 1) := by decide +kernel
theorem d12_5 : decode jdk_42_method_54_code 5 = .ok (.aload_n 0, 1) := by decide +kernel
theorem d12_6 : decode jdk_42_method_54_code 6 = .ok (.invokevirtual 335, 3) := by decide +kernel
theorem d12_9 : decode jdk_42_method_54_code 9 = .ok (.ishr, 1) := by decide +kernel
theorem d12_10 : decode jdk_42_method_54_code 10 = .ok (.ireturn, 1) := by decide +kernel
theorem pn12 : plainFor (⟨"java/lang/String", "length", "()I"⟩ : MethodName) = true := by first | exact plainFor_of_name (by first | (simp [plainName, overriddenIn]; done) | decide +kernel) | decide +kernel
theorem pd12 : parseMethodDescriptor "()I" = some ⟨[], some .int⟩ := by decide +kernel
set_option maxRecDepth 65536 in
set_option maxHeartbeats 40000000 in
theorem sle (l : Launch) (Z : State) (a0' : Array Value) (hw : ∀ d ∈ tables_1, d.before a0' Z = true) (hEL : EW Z a0' EL0) (hSA : ∀ a ∈ Bundle.stringAtoms, a.before a0' Z = true) (h : Heap) (cpt : Int32) (SCP : Sta Z Z.heap "java/lang/String" "COMPACT_STRINGS" "Z" (.int cpt)) (hcp : ¬ cpt = 0) (SAD : Sta Z Z.heap "java/lang/StringUTF16" "$assertionsDisabled" "Z" (.int (1 : Int32))) (SHI : Sta Z Z.heap "java/lang/StringUTF16" "HI_BYTE_SHIFT" "I" (.int (0 : Int32))) (SLO : Sta Z Z.heap "java/lang/StringUTF16" "LO_BYTE_SHIFT" "I" (.int (8 : Int32))) (a b : Addr) (cs : List Int32) (hn : cs.length < 2 ^ 28) (T : Str Z h a b cs) :
    Con l Z EL0 (⟨"java/lang/String", "length", "()I"⟩ : MethodName) jdk_42_method_54_code 1 (some .int) ⟨1, 0, 0, 13⟩ #[.ref a] h [] (Same (some (.int (Int32.ofNat cs.length))) h) (fun _ => []) := by
  refine Con.of (Ls := #[.val (.ref a)]) hw hEL pn12 (fun m => by first | (simp [entryFrame, mkF, argsToLocals, Value.category, maxLocals]; done) | rfl) fun W C => ?_
  refine C.kept fun hE => ?_
  have z0 : Z.heap.size ≤ h.size := hE.1
  refine C.aloadN 1 d12_0 rfl rfl rfl ?_
  refine C.getfield 4 d12_1 rfl (tw 29) Via.refl T.2.1 ?_
  obtain ⟨T1, T2, T3, B⟩ := T
  have T := (⟨T1, T2, T3, B⟩ : Str Z h a b cs)
  by_cases hl : lat cs
  · rw [enc_l hl] at B
    refine C.arraylength 5 (Int32.ofNat cs.length) d12_4 rfl B (by simp) ?_
    refine C.aloadN 6 d12_5 rfl rfl rfl ?_
    refine C.callV 9 (as := []) (rest := [.int (Int32.ofNat cs.length)]) (rm := ⟨0, 0, 0, 0⟩) 1 d12_6 rfl (tw 70) (tw 71) (tw 73) nfSelf (tw 72) (tw 4) (tw 74) (by decide) T1 (sco l Z a0' hw hEL hSA h cpt SCP hcp SAD SHI SLO a b cs T) (by simp) pd13 rfl rfl (Nat.le_of_eq rfl) (by decide) (by decide) (by decide) (by decide) rfl ?_
    refine same_intro ?_
    show W h [] 0 0 9 #[.val (.ref a)] [.int (cod cs), .int (Int32.ofNat cs.length)]
    rw [cod_l hl]
    refine C.ishr 10 d12_9 rfl ?_
    rw [o_shr0 (by omega)]
    exact C.retI .int d12_10 rfl (by simp) rfl (by decide) (by decide) ⟨rfl, rfl⟩ (fun _ q => nomatch q)
  · rw [enc_u hl] at B
    refine C.arraylength 5 (Int32.ofNat (2 * cs.length)) d12_4 rfl B (by simp [u16_len]) ?_
    refine C.aloadN 6 d12_5 rfl rfl rfl ?_
    refine C.callV 9 (as := []) (rest := [.int (Int32.ofNat (2 * cs.length))]) (rm := ⟨0, 0, 0, 0⟩) 1 d12_6 rfl (tw 70) (tw 71) (tw 73) nfSelf (tw 72) (tw 4) (tw 74) (by decide) T1 (sco l Z a0' hw hEL hSA h cpt SCP hcp SAD SHI SLO a b cs T) (by simp) pd13 rfl rfl (Nat.le_of_eq rfl) (by decide) (by decide) (by decide) (by decide) rfl ?_
    refine same_intro ?_
    show W h [] 0 0 9 #[.val (.ref a)] [.int (cod cs), .int (Int32.ofNat (2 * cs.length))]
    rw [cod_u hl]
    refine C.ishr 10 d12_9 rfl ?_
    rw [o_half (by omega)]
    exact C.retI .int d12_10 rfl (by simp) rfl (by decide) (by decide) ⟨rfl, rfl⟩ (fun _ q => nomatch q)
theorem d9_0 : decode jdk_42_method_55_code 0 = .ok (.aload_n 0, 1) := by decide +kernel
theorem d9_1 : decode jdk_42_method_55_code 1 = .ok (.getfield 9, 3) := by decide +kernel
theorem d9_4 : decode jdk_42_method_55_code 4 = .ok (.arraylength, 1) := by decide +kernel
theorem d9_5 : decode jdk_42_method_55_code 5 = .ok (.ifCond .ne 7, 3) := by decide +kernel
theorem d9_8 : decode jdk_42_method_55_code 8 = .ok (.iconst 1, 1) := by decide +kernel
theorem d9_9 : decode jdk_42_method_55_code 9 = .ok (.goto 4, 3) := by decide +kernel
theorem d9_12 : decode jdk_42_method_55_code 12 = .ok (.iconst 0, 1) := by decide +kernel
theorem d9_13 : decode jdk_42_method_55_code 13 = .ok (.ireturn, 1) := by decide +kernel
theorem pn9 : plainFor (⟨"java/lang/String", "isEmpty", "()Z"⟩ : MethodName) = true := by first | exact plainFor_of_name (by first | (simp [plainName, overriddenIn]; done) | decide +kernel) | decide +kernel
theorem pd9 : parseMethodDescriptor "()Z" = some ⟨[], some .boolean⟩ := by decide +kernel
set_option maxRecDepth 65536 in
set_option maxHeartbeats 40000000 in
theorem sne (l : Launch) (Z : State) (a0' : Array Value) (hw : ∀ d ∈ tables_1, d.before a0' Z = true) (hEL : EW Z a0' EL0) (hSA : ∀ a ∈ Bundle.stringAtoms, a.before a0' Z = true) (h : Heap) (a b : Addr) (cs : List Int32) (hn : cs.length < 2 ^ 28) (h0 : cs.length ≠ 0) (T : Str Z h a b cs) :
    Con l Z EL0 (⟨"java/lang/String", "isEmpty", "()Z"⟩ : MethodName) jdk_42_method_55_code 1 (some .boolean) ⟨0, 0, 0, 0⟩ #[.ref a] h [] (Same (some (.int 0)) h) (fun _ => []) := by
  refine Con.of (Ls := #[.val (.ref a)]) hw hEL pn9 (fun m => by first | (simp [entryFrame, mkF, argsToLocals, Value.category, maxLocals]; done) | rfl) fun W C => ?_
  refine C.kept fun hE => ?_
  have z0 : Z.heap.size ≤ h.size := hE.1
  refine C.aloadN 1 d9_0 rfl rfl rfl ?_
  refine C.getfield 4 d9_1 rfl (tw 29) Via.refl T.2.1 ?_
  have B := T.2.2.2
  have el : (enc cs).length < 2 ^ 30 ∧ (enc cs).length ≠ 0 := by
    by_cases hl : lat cs
    · rw [enc_l hl, List.length_map]; omega
    · rw [enc_u hl, u16_len]; omega
  refine C.arraylength 5 (Int32.ofNat (enc cs).length) d9_4 rfl B (by simp) ?_
  refine C.ifT 12 d9_5 rfl ((if0 _ _).trans (feq (o_ne (by omega) el.2)).2) ?_
  refine C.iconst 13 (0 : Int32) d9_12 rfl rfl ?_
  exact C.retI .boolean d9_13 rfl (by simp) rfl (by decide) (by decide) ⟨rfl, rfl⟩ (fun _ q => nomatch q)
theorem d15_0 : decode jdk_42_method_154_code 0 = .ok (.getstatic 38, 3) := by decide +kernel
theorem d15_3 : decode jdk_42_method_154_code 3 = .ok (.ifCond .eq 14, 3) := by decide +kernel
theorem d15_6 : decode jdk_42_method_154_code 6 = .ok (.aload_n 0, 1) := by decide +kernel
theorem d15_7 : decode jdk_42_method_154_code 7 = .ok (.getfield 15, 3) := by decide +kernel
theorem d15_10 : decode jdk_42_method_154_code 10 = .ok (.ifCond .ne 7, 3) := by decide +kernel
theorem d15_13 : decode jdk_42_method_154_code 13 = .ok (.iconst 1, 1) := by decide +kernel
theorem d15_14 : decode jdk_42_method_154_code 14 = .ok (.goto 4, 3) := by decide +kernel
theorem d15_17 : decode jdk_42_method_154_code 17 = .ok (.iconst 0, 1) := by decide +kernel
theorem d15_18 : decode jdk_42_method_154_code 18 = .ok (.ireturn, 1) := by decide +kernel
theorem pn15 : plainFor (⟨"java/lang/String", "isLatin1", "()Z"⟩ : MethodName) = true := by first | exact plainFor_of_name (by first | (simp [plainName, overriddenIn]; done) | decide +kernel) | decide +kernel
theorem pd15 : parseMethodDescriptor "()Z" = some ⟨[], some .boolean⟩ := by decide +kernel
set_option maxRecDepth 65536 in
set_option maxHeartbeats 40000000 in
theorem sil (l : Launch) (Z : State) (a0' : Array Value) (hw : ∀ d ∈ tables_1, d.before a0' Z = true) (hEL : EW Z a0' EL0) (hSA : ∀ a ∈ Bundle.stringAtoms, a.before a0' Z = true) (h : Heap) (cpt : Int32) (SCP : Sta Z Z.heap "java/lang/String" "COMPACT_STRINGS" "Z" (.int cpt)) (hcp : ¬ cpt = 0) (SAD : Sta Z Z.heap "java/lang/StringUTF16" "$assertionsDisabled" "Z" (.int (1 : Int32))) (SHI : Sta Z Z.heap "java/lang/StringUTF16" "HI_BYTE_SHIFT" "I" (.int (0 : Int32))) (SLO : Sta Z Z.heap "java/lang/StringUTF16" "LO_BYTE_SHIFT" "I" (.int (8 : Int32))) (a b : Addr) (cs : List Int32) (T : Str Z h a b cs) :
    Con l Z EL0 (⟨"java/lang/String", "isLatin1", "()Z"⟩ : MethodName) jdk_42_method_154_code 1 (some .boolean) ⟨0, 0, 0, 0⟩ #[.ref a] h [] (Same (some (.int (if lat cs then 1 else 0))) h) (fun _ => []) := by
  refine Con.of (Ls := #[.val (.ref a)]) hw hEL pn15 (fun m => by first | (simp [entryFrame, mkF, argsToLocals, Value.category, maxLocals]; done) | rfl) fun W C => ?_
  refine C.kept fun hE => ?_
  have z0 : Z.heap.size ≤ h.size := hE.1
  refine C.getstatic 3 d15_0 rfl (tw 15) SCP ?_
  refine C.ifF 6 d15_3 rfl ((if0 _ _).trans (feq hcp).1) ?_
  refine C.aloadN 7 d15_6 rfl rfl rfl ?_
  refine C.getfield 10 d15_7 rfl (tw 27) Via.refl T.2.2.1 ?_
  by_cases hl : lat cs
  · rw [cod_l hl]
    refine C.ifF 13 d15_10 rfl (by decide) ?_
    refine C.iconst 14 (1 : Int32) d15_13 rfl rfl ?_
    refine C.goto 18 d15_14 rfl ?_
    exact C.retI .boolean d15_18 rfl (by simp) rfl (by decide) (by decide) ⟨by rw [if_pos hl], rfl⟩ (fun _ q => nomatch q)
  · rw [cod_u hl]
    refine C.ifT 17 d15_10 rfl (by decide) ?_
    refine C.iconst 18 (0 : Int32) d15_17 rfl rfl ?_
    exact C.retI .boolean d15_18 rfl (by simp) rfl (by decide) (by decide) ⟨by rw [if_neg hl], rfl⟩ (fun _ q => nomatch q)
theorem d18_0 : decode jdk_41_method_11_code 0 = .ok (.iload_n 0, 1) := by decide +kernel
theorem d18_1 : decode jdk_41_method_11_code 1 = .ok (.ifCond .lt 8, 3) := by decide +kernel
theorem d18_4 : decode jdk_41_method_11_code 4 = .ok (.iload_n 0, 1) := by decide +kernel
theorem d18_5 : decode jdk_41_method_11_code 5 = .ok (.iload_n 1, 1) := by decide +kernel
theorem d18_6 : decode jdk_41_method_11_code 6 = .ok (.if_icmp .lt 10, 3) := by decide +kernel
theorem d18_9 : decode jdk_41_method_11_code 9 = .ok (.aload_n 2, 1) := by decide +kernel
theorem d18_10 : decode jdk_41_method_11_code 10 = .ok (.iload_n 0, 1) := by decide +kernel
theorem d18_11 : decode jdk_41_method_11_code 11 = .ok (.iload_n 1, 1) := by decide +kernel
theorem d18_12 : decode jdk_41_method_11_code 12 = .ok (.invokestatic 95, 3) := by decide +kernel
theorem d18_15 : decode jdk_41_method_11_code 15 = .ok (.athrow, 1) := by decide +kernel
theorem d18_16 : decode jdk_41_method_11_code 16 = .ok (.iload_n 0, 1) := by decide +kernel
theorem d18_17 : decode jdk_41_method_11_code 17 = .ok (.ireturn, 1) := by decide +kernel
theorem pn18 : plainFor (⟨"jdk/internal/util/Preconditions", "checkIndex", "(IILjava/util/function/BiFunction;)I"⟩ : MethodName) = true := by first | exact plainFor_of_name (by first | (simp [plainName, overriddenIn]; done) | decide +kernel) | decide +kernel
theorem pd18 : parseMethodDescriptor "(IILjava/util/function/BiFunction;)I" = some ⟨[.int, .int, (.object "java/util/function/BiFunction")], some .int⟩ := by decide +kernel
set_option maxRecDepth 65536 in
set_option maxHeartbeats 40000000 in
theorem pci (l : Launch) (Z : State) (a0' : Array Value) (hw : ∀ d ∈ tables_1, d.before a0' Z = true) (hEL : EW Z a0' EL0) (hSA : ∀ a ∈ Bundle.stringAtoms, a.before a0' Z = true) (h : Heap) (i z : Nat) (sf : Value) (hsf : sf.isRef = true) (hi : i < z) (hz : z < 2 ^ 31) :
    Con l Z EL0 (⟨"jdk/internal/util/Preconditions", "checkIndex", "(IILjava/util/function/BiFunction;)I"⟩ : MethodName) jdk_41_method_11_code 3 (some .int) ⟨0, 0, 0, 0⟩ #[.int (Int32.ofNat i), .int (Int32.ofNat z), sf] h [] (Same (some (.int (Int32.ofNat i))) h) (fun _ => []) := by
  refine Con.of (Ls := #[.val (.int (Int32.ofNat i)), .val (.int (Int32.ofNat z)), .val (sf)]) hw hEL pn18 (fun m => by rcases ref_cases hsf with rfl | ⟨y, rfl⟩ <;> first | (simp [entryFrame, mkF, argsToLocals, Value.category]; done) | rfl) fun W C => ?_
  refine C.kept fun hE => ?_
  have z0 : Z.heap.size ≤ h.size := hE.1
  refine C.iloadN 1 d18_0 rfl rfl ?_
  refine C.ifF 4 d18_1 rfl ((if0 _ _).trans (flt (o_nn (x := i) (by omega))).1) ?_
  refine C.iloadN 5 d18_4 rfl rfl ?_
  refine C.iloadN 6 d18_5 rfl rfl ?_
  have q : Int32.ofNat i < Int32.ofNat z := (o_lt (by omega) (by omega)).mpr hi
  refine C.icmpT 16 d18_6 rfl (tlt q).1 ?_
  refine C.iloadN 17 d18_16 rfl rfl ?_
  exact C.retI .int d18_17 rfl (by simp) rfl (by decide) (by decide) ⟨rfl, rfl⟩ (fun _ q => nomatch q)
theorem d17_0 : decode jdk_42_method_155_code 0 = .ok (.iload_n 0, 1) := by decide +kernel
theorem d17_1 : decode jdk_42_method_155_code 1 = .ok (.iload_n 1, 1) := by decide +kernel
theorem d17_2 : decode jdk_42_method_155_code 2 = .ok (.getstatic 1053, 3) := by decide +kernel
theorem d17_5 : decode jdk_42_method_155_code 5 = .ok (.invokestatic 1059, 3) := by decide +kernel
theorem d17_8 : decode jdk_42_method_155_code 8 = .ok (.pop, 1) := by decide +kernel
theorem d17_9 : decode jdk_42_method_155_code 9 = .ok (.return_, 1) := by decide +kernel
theorem pn17 : plainFor (⟨"java/lang/String", "checkIndex", "(II)V"⟩ : MethodName) = true := by first | exact plainFor_of_name (by first | (simp [plainName, overriddenIn]; done) | decide +kernel) | decide +kernel
theorem pd17 : parseMethodDescriptor "(II)V" = some ⟨[.int, .int], none⟩ := by decide +kernel
set_option maxRecDepth 65536 in
set_option maxHeartbeats 40000000 in
theorem sci (l : Launch) (Z : State) (a0' : Array Value) (hw : ∀ d ∈ tables_1, d.before a0' Z = true) (hEL : EW Z a0' EL0) (hSA : ∀ a ∈ Bundle.stringAtoms, a.before a0' Z = true) (h : Heap) (i z : Nat) (sf : Value) (hsf : sf.isRef = true) (SSF : Sta Z Z.heap "jdk/internal/util/Preconditions" "SIOOBE_FORMATTER" "Ljava/util/function/BiFunction;" sf) (hi : i < z) (hz : z < 2 ^ 31) :
    Con l Z EL0 (⟨"java/lang/String", "checkIndex", "(II)V"⟩ : MethodName) jdk_42_method_155_code 2 none ⟨1, 0, 0, 14⟩ #[.int (Int32.ofNat i), .int (Int32.ofNat z)] h [] (Same none h) (fun _ => []) := by
  refine Con.of (Ls := #[.val (.int (Int32.ofNat i)), .val (.int (Int32.ofNat z))]) hw hEL pn17 (fun m => by first | (simp [entryFrame, mkF, argsToLocals, Value.category, maxLocals]; done) | rfl) fun W C => ?_
  refine C.kept fun hE => ?_
  have z0 : Z.heap.size ≤ h.size := hE.1
  refine C.iloadN 1 d17_0 rfl rfl ?_
  refine C.iloadN 2 d17_1 rfl rfl ?_
  refine C.getstatic 5 d17_2 rfl (tw 92) SSF ?_
  refine C.callS 8 (as := [.int (Int32.ofNat i), .int (Int32.ofNat z), sf]) (rest := []) (rm := ⟨0, 0, 0, 0⟩) 0 d17_5 rfl (tw 94) (tw 95) (tw 93) (tw 96) (by decide) (pci l Z a0' hw hEL hSA h i z sf hsf hi hz) (by simp) pd18 rfl rfl (Nat.le_of_eq rfl) (by decide) (by decide) (by decide) (by decide) rfl ?_
  refine same_intro ?_
  show W h [] 0 0 8 #[.val (.int (Int32.ofNat i)), .val (.int (Int32.ofNat z))] [.int (Int32.ofNat i)]
  refine C.pop 9 d17_8 rfl rfl ?_
  exact C.ret0 d17_9 rfl (by decide) (by decide) ⟨rfl, rfl⟩ (fun _ q => nomatch q)
theorem d16_0 : decode jdk_43_method_2_code 0 = .ok (.iload_n 1, 1) := by decide +kernel
theorem d16_1 : decode jdk_43_method_2_code 1 = .ok (.aload_n 0, 1) := by decide +kernel
theorem d16_2 : decode jdk_43_method_2_code 2 = .ok (.arraylength, 1) := by decide +kernel
theorem d16_3 : decode jdk_43_method_2_code 3 = .ok (.invokestatic 9, 3) := by decide +kernel
theorem d16_6 : decode jdk_43_method_2_code 6 = .ok (.aload_n 0, 1) := by decide +kernel
theorem d16_7 : decode jdk_43_method_2_code 7 = .ok (.iload_n 1, 1) := by decide +kernel
theorem d16_8 : decode jdk_43_method_2_code 8 = .ok (.baload, 1) := by decide +kernel
theorem d16_9 : decode jdk_43_method_2_code 9 = .ok (.sipush 255, 3) := by decide +kernel
theorem d16_12 : decode jdk_43_method_2_code 12 = .ok (.iand, 1) := by decide +kernel
theorem d16_13 : decode jdk_43_method_2_code 13 = .ok (.i2c, 1) := by decide +kernel
theorem d16_14 : decode jdk_43_method_2_code 14 = .ok (.ireturn, 1) := by decide +kernel
theorem pn16 : plainFor (⟨"java/lang/StringLatin1", "charAt", "([BI)C"⟩ : MethodName) = true := by first | exact plainFor_of_name (by first | (simp [plainName, overriddenIn]; done) | decide +kernel) | decide +kernel
theorem pd16 : parseMethodDescriptor "([BI)C" = some ⟨[(.array .byte), .int], some .char⟩ := by decide +kernel
set_option maxRecDepth 65536 in
set_option maxHeartbeats 40000000 in
theorem lca (l : Launch) (Z : State) (a0' : Array Value) (hw : ∀ d ∈ tables_1, d.before a0' Z = true) (hEL : EW Z a0' EL0) (hSA : ∀ a ∈ Bundle.stringAtoms, a.before a0' Z = true) (h : Heap) (b : Addr) (cs : List Int32) (i : Nat) (c : Int32) (sf : Value) (hsf : sf.isRef = true) (SSF : Sta Z Z.heap "jdk/internal/util/Preconditions" "SIOOBE_FORMATTER" "Ljava/util/function/BiFunction;" sf) (hn : cs.length < 2 ^ 28) (hi : cs[i]? = some c) (hc : Ch c) (hl : ¬ (255 : Int32) < c) (B : Al Z h b .byte (iv' (cs.map by8))) :
    Con l Z EL0 (⟨"java/lang/StringLatin1", "charAt", "([BI)C"⟩ : MethodName) jdk_43_method_2_code 2 (some .char) ⟨2, 0, 0, 27⟩ #[.ref b, .int (Int32.ofNat i)] h [] (Same (some (.int c)) h) (fun _ => []) := by
  refine Con.of (Ls := #[.val (.ref b), .val (.int (Int32.ofNat i))]) hw hEL pn16 (fun m => by first | (simp [entryFrame, mkF, argsToLocals, Value.category, maxLocals]; done) | rfl) fun W C => ?_
  refine C.kept fun hE => ?_
  have z0 : Z.heap.size ≤ h.size := hE.1
  have hlt : i < cs.length := (List.getElem?_eq_some_iff.mp hi).1
  refine C.iloadN 1 d16_0 rfl rfl ?_
  refine C.aloadN 2 d16_1 rfl rfl rfl ?_
  refine C.arraylength 3 (Int32.ofNat cs.length) d16_2 rfl B (by simp) ?_
  refine C.callS 6 (as := [.int (Int32.ofNat i), .int (Int32.ofNat cs.length)]) (rest := []) (rm := ⟨1, 0, 0, 14⟩) 0 d16_3 rfl (tw 89) (tw 90) (tw 4) (tw 91) (by decide) (sci l Z a0' hw hEL hSA h i cs.length sf hsf SSF hlt (by omega)) (by simp) pd17 rfl rfl (Nat.le_of_eq rfl) (by decide) (by decide) (by decide) (by decide) rfl ?_
  refine same_intro ?_
  show W h [] 0 0 6 #[.val (.ref b), .val (.int (Int32.ofNat i))] []
  refine C.aloadN 7 d16_6 rfl rfl rfl ?_
  refine C.iloadN 8 d16_7 rfl rfl ?_
  refine C.baloadB 9 i (.int (by8 c)) d16_8 rfl B (o_nn (by omega)) (o_cl (by omega)) (by rw [List.getElem?_map, List.getElem?_map, hi]; rfl) ?_
  refine C.sipush 12 (255 : Int32) d16_9 rfl rfl ?_
  refine C.iand 13 d16_12 rfl ?_
  refine C.i2c 14 d16_13 rfl ?_
  rw [gl8 hc hl]
  exact C.retI .char d16_14 rfl (by simp) (ch_nar hc) (by decide) (by decide) ⟨rfl, rfl⟩ (fun _ q => nomatch q)
theorem d28_0 : decode jdk_52_method_6_code 0 = .ok (.aload_n 0, 1) := by decide +kernel
theorem d28_1 : decode jdk_52_method_6_code 1 = .ok (.arraylength, 1) := by decide +kernel
theorem d28_2 : decode jdk_52_method_6_code 2 = .ok (.iconst 1, 1) := by decide +kernel
theorem d28_3 : decode jdk_52_method_6_code 3 = .ok (.ishr, 1) := by decide +kernel
theorem d28_4 : decode jdk_52_method_6_code 4 = .ok (.ireturn, 1) := by decide +kernel
theorem pn28 : plainFor (⟨"java/lang/StringUTF16", "length", "([B)I"⟩ : MethodName) = true := by first | exact plainFor_of_name (by first | (simp [plainName, overriddenIn]; done) | decide +kernel) | decide +kernel
theorem pd28 : parseMethodDescriptor "([B)I" = some ⟨[(.array .byte)], some .int⟩ := by decide +kernel
set_option maxRecDepth 65536 in
set_option maxHeartbeats 40000000 in
theorem ule (l : Launch) (Z : State) (a0' : Array Value) (hw : ∀ d ∈ tables_1, d.before a0' Z = true) (hEL : EW Z a0' EL0) (hSA : ∀ a ∈ Bundle.stringAtoms, a.before a0' Z = true) (h : Heap) (b : Addr) (cs : List Int32) (hn : cs.length < 2 ^ 28) (B : Al Z h b .byte (iv' (u16 cs))) :
    Con l Z EL0 (⟨"java/lang/StringUTF16", "length", "([B)I"⟩ : MethodName) jdk_52_method_6_code 1 (some .int) ⟨0, 0, 0, 0⟩ #[.ref b] h [] (Same (some (.int (Int32.ofNat cs.length))) h) (fun _ => []) := by
  refine Con.of (Ls := #[.val (.ref b)]) hw hEL pn28 (fun m => by first | (simp [entryFrame, mkF, argsToLocals, Value.category, maxLocals]; done) | rfl) fun W C => ?_
  refine C.kept fun hE => ?_
  have z0 : Z.heap.size ≤ h.size := hE.1
  refine C.aloadN 1 d28_0 rfl rfl rfl ?_
  refine C.arraylength 2 (Int32.ofNat (2 * cs.length)) d28_1 rfl B (by simp [u16_len]) ?_
  refine C.iconst 3 (1 : Int32) d28_2 rfl rfl ?_
  refine C.ishr 4 d28_3 rfl ?_
  rw [o_half (by omega)]
  exact C.retI .int d28_4 rfl (by simp) rfl (by decide) (by decide) ⟨rfl, rfl⟩ (fun _ q => nomatch q)
theorem d27_0 : decode jdk_52_method_91_code 0 = .ok (.iload_n 0, 1) := by decide +kernel
theorem d27_1 : decode jdk_52_method_91_code 1 = .ok (.aload_n 1, 1) := by decide +kernel
theorem d27_2 : decode jdk_52_method_91_code 2 = .ok (.invokestatic 48, 3) := by decide +kernel
theorem d27_5 : decode jdk_52_method_91_code 5 = .ok (.invokestatic 414, 3) := by decide +kernel
theorem d27_8 : decode jdk_52_method_91_code 8 = .ok (.return_, 1) := by decide +kernel
theorem pn27 : plainFor (⟨"java/lang/StringUTF16", "checkIndex", "(I[B)V"⟩ : MethodName) = true := by first | exact plainFor_of_name (by first | (simp [plainName, overriddenIn]; done) | decide +kernel) | decide +kernel
theorem pd27 : parseMethodDescriptor "(I[B)V" = some ⟨[.int, (.array .byte)], none⟩ := by decide +kernel
set_option maxRecDepth 65536 in
set_option maxHeartbeats 40000000 in
theorem uci (l : Launch) (Z : State) (a0' : Array Value) (hw : ∀ d ∈ tables_1, d.before a0' Z = true) (hEL : EW Z a0' EL0) (hSA : ∀ a ∈ Bundle.stringAtoms, a.before a0' Z = true) (h : Heap) (b : Addr) (cs : List Int32) (i : Nat) (sf : Value) (hsf : sf.isRef = true) (SSF : Sta Z Z.heap "jdk/internal/util/Preconditions" "SIOOBE_FORMATTER" "Ljava/util/function/BiFunction;" sf) (hn : cs.length < 2 ^ 28) (hi : i < cs.length) (B : Al Z h b .byte (iv' (u16 cs))) :
    Con l Z EL0 (⟨"java/lang/StringUTF16", "checkIndex", "(I[B)V"⟩ : MethodName) jdk_52_method_91_code 2 none ⟨2, 0, 0, 27⟩ #[.int (Int32.ofNat i), .ref b] h [] (Same none h) (fun _ => []) := by
  refine Con.of (Ls := #[.val (.int (Int32.ofNat i)), .val (.ref b)]) hw hEL pn27 (fun m => by first | (simp [entryFrame, mkF, argsToLocals, Value.category, maxLocals]; done) | rfl) fun W C => ?_
  refine C.kept fun hE => ?_
  have z0 : Z.heap.size ≤ h.size := hE.1
  refine C.iloadN 1 d27_0 rfl rfl ?_
  refine C.aloadN 2 d27_1 rfl rfl rfl ?_
  refine C.callS 5 (as := [.ref b]) (rest := [.int (Int32.ofNat i)]) (rm := ⟨0, 0, 0, 0⟩) 1 d27_2 rfl (tw 133) (tw 134) (tw 18) (tw 135) (by decide) (ule l Z a0' hw hEL hSA h b cs hn B) (by simp) pd28 rfl rfl (Nat.le_of_eq rfl) (by decide) (by decide) (by decide) (by decide) rfl ?_
  refine same_intro ?_
  show W h [] 0 0 5 #[.val (.int (Int32.ofNat i)), .val (.ref b)] [.int (Int32.ofNat cs.length), .int (Int32.ofNat i)]
  refine C.callS 8 (as := [.int (Int32.ofNat i), .int (Int32.ofNat cs.length)]) (rest := []) (rm := ⟨1, 0, 0, 14⟩) 0 d27_5 rfl (tw 136) (tw 90) (tw 4) (tw 91) (by decide) (sci l Z a0' hw hEL hSA h i cs.length sf hsf SSF hi (by omega)) (by simp) pd17 rfl rfl (Nat.le_of_eq rfl) (by decide) (by decide) (by decide) (by decide) rfl ?_
  refine same_intro ?_
  show W h [] 0 0 8 #[.val (.int (Int32.ofNat i)), .val (.ref b)] []
  exact C.ret0 d27_8 rfl (by decide) (by decide) ⟨rfl, rfl⟩ (fun _ q => nomatch q)
theorem d26_0 : decode jdk_52_method_83_code 0 = .ok (.iload_n 1, 1) := by decide +kernel
theorem d26_1 : decode jdk_52_method_83_code 1 = .ok (.aload_n 0, 1) := by decide +kernel
theorem d26_2 : decode jdk_52_method_83_code 2 = .ok (.invokestatic 67, 3) := by decide +kernel
theorem d26_5 : decode jdk_52_method_83_code 5 = .ok (.aload_n 0, 1) := by decide +kernel
theorem d26_6 : decode jdk_52_method_83_code 6 = .ok (.iload_n 1, 1) := by decide +kernel
theorem d26_7 : decode jdk_52_method_83_code 7 = .ok (.invokestatic 71, 3) := by decide +kernel
theorem d26_10 : decode jdk_52_method_83_code 10 = .ok (.ireturn, 1) := by decide +kernel
theorem pn26 : plainFor (⟨"java/lang/StringUTF16", "charAt", "([BI)C"⟩ : MethodName) = true := by first | exact plainFor_of_name (by first | (simp [plainName, overriddenIn]; done) | decide +kernel) | decide +kernel
theorem pd26 : parseMethodDescriptor "([BI)C" = some ⟨[(.array .byte), .int], some .char⟩ := by decide +kernel
set_option maxRecDepth 65536 in
set_option maxHeartbeats 40000000 in
theorem uca (l : Launch) (Z : State) (a0' : Array Value) (hw : ∀ d ∈ tables_1, d.before a0' Z = true) (hEL : EW Z a0' EL0) (hSA : ∀ a ∈ Bundle.stringAtoms, a.before a0' Z = true) (h : Heap) (cpt : Int32) (SCP : Sta Z Z.heap "java/lang/String" "COMPACT_STRINGS" "Z" (.int cpt)) (hcp : ¬ cpt = 0) (SAD : Sta Z Z.heap "java/lang/StringUTF16" "$assertionsDisabled" "Z" (.int (1 : Int32))) (SHI : Sta Z Z.heap "java/lang/StringUTF16" "HI_BYTE_SHIFT" "I" (.int (0 : Int32))) (SLO : Sta Z Z.heap "java/lang/StringUTF16" "LO_BYTE_SHIFT" "I" (.int (8 : Int32))) (b : Addr) (cs : List Int32) (i : Nat) (c : Int32) (sf : Value) (hsf : sf.isRef = true) (SSF : Sta Z Z.heap "jdk/internal/util/Preconditions" "SIOOBE_FORMATTER" "Ljava/util/function/BiFunction;" sf) (hn : cs.length < 2 ^ 28) (hi : cs[i]? = some c) (hc : Ch c) (B : Al Z h b .byte (iv' (u16 cs))) :
    Con l Z EL0 (⟨"java/lang/StringUTF16", "charAt", "([BI)C"⟩ : MethodName) jdk_52_method_83_code 2 (some .char) ⟨3, 0, 0, 40⟩ #[.ref b, .int (Int32.ofNat i)] h [] (Same (some (.int c)) h) (fun _ => []) := by
  refine Con.of (Ls := #[.val (.ref b), .val (.int (Int32.ofNat i))]) hw hEL pn26 (fun m => by first | (simp [entryFrame, mkF, argsToLocals, Value.category, maxLocals]; done) | rfl) fun W C => ?_
  refine C.kept fun hE => ?_
  have z0 : Z.heap.size ≤ h.size := hE.1
  have hlt : i < cs.length := (List.getElem?_eq_some_iff.mp hi).1
  refine C.iloadN 1 d26_0 rfl rfl ?_
  refine C.aloadN 2 d26_1 rfl rfl rfl ?_
  refine C.callS 5 (as := [.int (Int32.ofNat i), .ref b]) (rest := []) (rm := ⟨2, 0, 0, 27⟩) 0 d26_2 rfl (tw 130) (tw 131) (tw 18) (tw 132) (by decide) (uci l Z a0' hw hEL hSA h b cs i sf hsf SSF hn hlt B) (by simp) pd27 rfl rfl (Nat.le_of_eq rfl) (by decide) (by decide) (by decide) (by decide) rfl ?_
  refine same_intro ?_
  show W h [] 0 0 5 #[.val (.ref b), .val (.int (Int32.ofNat i))] []
  refine C.aloadN 6 d26_5 rfl rfl rfl ?_
  refine C.iloadN 7 d26_6 rfl rfl ?_
  refine C.callS 10 (as := [.ref b, .int (Int32.ofNat i)]) (rest := []) (rm := ⟨0, 0, 0, 0⟩) 0 d26_7 rfl (tw 124) (tw 125) (tw 18) (tw 126) (by decide) (gch l Z a0' hw hEL hSA h cpt SCP hcp SAD SHI SLO b cs i c hn hi hc B) (by simp) pd25 rfl rfl (Nat.le_of_eq rfl) (by decide) (by decide) (by decide) (by decide) rfl ?_
  refine same_intro ?_
  show W h [] 0 0 10 #[.val (.ref b), .val (.int (Int32.ofNat i))] [.int c]
  exact C.retI .char d26_10 rfl (by simp) (ch_nar hc) (by decide) (by decide) ⟨rfl, rfl⟩ (fun _ q => nomatch q)
theorem d14_0 : decode jdk_42_method_56_code 0 = .ok (.aload_n 0, 1) := by decide +kernel
theorem d14_1 : decode jdk_42_method_56_code 1 = .ok (.invokevirtual 492, 3) := by decide +kernel
theorem d14_4 : decode jdk_42_method_56_code 4 = .ok (.ifCond .eq 12, 3) := by decide +kernel
theorem d14_7 : decode jdk_42_method_56_code 7 = .ok (.aload_n 0, 1) := by decide +kernel
theorem d14_8 : decode jdk_42_method_56_code 8 = .ok (.getfield 9, 3) := by decide +kernel
theorem d14_11 : decode jdk_42_method_56_code 11 = .ok (.iload_n 1, 1) := by decide +kernel
theorem d14_12 : decode jdk_42_method_56_code 12 = .ok (.invokestatic 495, 3) := by decide +kernel
theorem d14_15 : decode jdk_42_method_56_code 15 = .ok (.ireturn, 1) := by decide +kernel
theorem d14_16 : decode jdk_42_method_56_code 16 = .ok (.aload_n 0, 1) := by decide +kernel
theorem d14_17 : decode jdk_42_method_56_code 17 = .ok (.getfield 9, 3) := by decide +kernel
theorem d14_20 : decode jdk_42_method_56_code 20 = .ok (.iload_n 1, 1) := by decide +kernel
theorem d14_21 : decode jdk_42_method_56_code 21 = .ok (.invokestatic 498, 3) := by decide +kernel
theorem d14_24 : decode jdk_42_method_56_code 24 = .ok (.ireturn, 1) := by decide +kernel
theorem pn14 : plainFor (⟨"java/lang/String", "charAt", "(I)C"⟩ : MethodName) = true := by first | exact plainFor_of_name (by first | (simp [plainName, overriddenIn]; done) | decide +kernel) | decide +kernel
theorem pd14 : parseMethodDescriptor "(I)C" = some ⟨[.int], some .char⟩ := by decide +kernel
set_option maxRecDepth 65536 in
set_option maxHeartbeats 40000000 in
theorem sca (l : Launch) (Z : State) (a0' : Array Value) (hw : ∀ d ∈ tables_1, d.before a0' Z = true) (hEL : EW Z a0' EL0) (hSA : ∀ a ∈ Bundle.stringAtoms, a.before a0' Z = true) (h : Heap) (cpt : Int32) (SCP : Sta Z Z.heap "java/lang/String" "COMPACT_STRINGS" "Z" (.int cpt)) (hcp : ¬ cpt = 0) (SAD : Sta Z Z.heap "java/lang/StringUTF16" "$assertionsDisabled" "Z" (.int (1 : Int32))) (SHI : Sta Z Z.heap "java/lang/StringUTF16" "HI_BYTE_SHIFT" "I" (.int (0 : Int32))) (SLO : Sta Z Z.heap "java/lang/StringUTF16" "LO_BYTE_SHIFT" "I" (.int (8 : Int32))) (sf : Value) (hsf : sf.isRef = true) (SSF : Sta Z Z.heap "jdk/internal/util/Preconditions" "SIOOBE_FORMATTER" "Ljava/util/function/BiFunction;" sf) (a b : Addr) (cs : List Int32) (i : Nat) (c : Int32) (hn : cs.length < 2 ^ 28) (hi : cs[i]? = some c) (hc : Ch c) (T : Str Z h a b cs) :
    Con l Z EL0 (⟨"java/lang/String", "charAt", "(I)C"⟩ : MethodName) jdk_42_method_56_code 2 (some .char) ⟨4, 0, 0, 53⟩ #[.ref a, .int (Int32.ofNat i)] h [] (Same (some (.int c)) h) (fun _ => []) := by
  refine Con.of (Ls := #[.val (.ref a), .val (.int (Int32.ofNat i))]) hw hEL pn14 (fun m => by first | (simp [entryFrame, mkF, argsToLocals, Value.category, maxLocals]; done) | rfl) fun W C => ?_
  refine C.kept fun hE => ?_
  have z0 : Z.heap.size ≤ h.size := hE.1
  refine C.aloadN 1 d14_0 rfl rfl rfl ?_
  refine C.callV 4 (as := []) (rest := []) (rm := ⟨0, 0, 0, 0⟩) 0 d14_1 rfl (tw 80) (tw 81) (tw 83) nfSelf (tw 82) (tw 4) (tw 84) (by decide) T.1 (sil l Z a0' hw hEL hSA h cpt SCP hcp SAD SHI SLO a b cs T) (by simp) pd15 rfl rfl (Nat.le_of_eq rfl) (by decide) (by decide) (by decide) (by decide) rfl ?_
  refine same_intro ?_
  show W h [] 0 0 4 #[.val (.ref a), .val (.int (Int32.ofNat i))] [.int (if lat cs then 1 else 0)]
  have B := T.2.2.2
  by_cases hl : lat cs
  · rw [if_pos hl]
    rw [enc_l hl] at B
    refine C.ifF 7 d14_4 rfl (by decide) ?_
    refine C.aloadN 8 d14_7 rfl rfl rfl ?_
    refine C.getfield 11 d14_8 rfl (tw 29) Via.refl T.2.1 ?_
    refine C.iloadN 12 d14_11 rfl rfl ?_
    refine C.callS 15 (as := [.ref b, .int (Int32.ofNat i)]) (rest := []) (rm := ⟨2, 0, 0, 27⟩) 0 d14_12 rfl (tw 85) (tw 86) (tw 87) (tw 88) (by decide) (lca l Z a0' hw hEL hSA h b cs i c sf hsf SSF hn hi hc (hl c (List.mem_of_getElem? hi)) B) (by simp) pd16 rfl rfl (Nat.le_of_eq rfl) (by decide) (by decide) (by decide) (by decide) rfl ?_
    refine same_intro ?_
    show W h [] 0 0 15 #[.val (.ref a), .val (.int (Int32.ofNat i))] [.int c]
    exact C.retI .char d14_15 rfl (by simp) (ch_nar hc) (by decide) (by decide) ⟨rfl, rfl⟩ (fun _ q => nomatch q)
  · rw [if_neg hl]
    rw [enc_u hl] at B
    refine C.ifT 16 d14_4 rfl (by decide) ?_
    refine C.aloadN 17 d14_16 rfl rfl rfl ?_
    refine C.getfield 20 d14_17 rfl (tw 29) Via.refl T.2.1 ?_
    refine C.iloadN 21 d14_20 rfl rfl ?_
    refine C.callS 24 (as := [.ref b, .int (Int32.ofNat i)]) (rest := []) (rm := ⟨3, 0, 0, 40⟩) 0 d14_21 rfl (tw 127) (tw 128) (tw 18) (tw 129) (by decide) (uca l Z a0' hw hEL hSA h cpt SCP hcp SAD SHI SLO b cs i c sf hsf SSF hn hi hc B) (by simp) pd26 rfl rfl (Nat.le_of_eq rfl) (by decide) (by decide) (by decide) (by decide) rfl ?_
    refine same_intro ?_
    show W h [] 0 0 24 #[.val (.ref a), .val (.int (Int32.ofNat i))] [.int c]
    exact C.retI .char d14_24 rfl (by simp) (ch_nar hc) (by decide) (by decide) ⟨rfl, rfl⟩ (fun _ q => nomatch q)
theorem d19_0 : decode jdk_42_method_66_code 0 = .ok (.aload_n 0, 1) := by decide +kernel
theorem d19_1 : decode jdk_42_method_66_code 1 = .ok (.aload_n 1, 1) := by decide +kernel
theorem d19_2 : decode jdk_42_method_66_code 2 = .ok (.if_acmp .ne 5, 3) := by decide +kernel
theorem d19_5 : decode jdk_42_method_66_code 5 = .ok (.iconst 1, 1) := by decide +kernel
theorem d19_6 : decode jdk_42_method_66_code 6 = .ok (.ireturn, 1) := by decide +kernel
theorem d19_7 : decode jdk_42_method_66_code 7 = .ok (.aload_n 1, 1) := by decide +kernel
theorem d19_8 : decode jdk_42_method_66_code 8 = .ok (.instanceof 10, 3) := by decide +kernel
theorem d19_11 : decode jdk_42_method_66_code 11 = .ok (.ifCond .eq 43, 3) := by decide +kernel
theorem d19_14 : decode jdk_42_method_66_code 14 = .ok (.aload_n 1, 1) := by decide +kernel
theorem d19_15 : decode jdk_42_method_66_code 15 = .ok (.checkcast 10, 3) := by decide +kernel
theorem d19_18 : decode jdk_42_method_66_code 18 = .ok (.astore_n 2, 1) := by decide +kernel
theorem d19_19 : decode jdk_42_method_66_code 19 = .ok (.getstatic 38, 3) := by decide +kernel
theorem d19_22 : decode jdk_42_method_66_code 22 = .ok (.ifCond .eq 14, 3) := by decide +kernel
theorem d19_25 : decode jdk_42_method_66_code 25 = .ok (.aload_n 0, 1) := by decide +kernel
theorem d19_26 : decode jdk_42_method_66_code 26 = .ok (.getfield 15, 3) := by decide +kernel
theorem d19_29 : decode jdk_42_method_66_code 29 = .ok (.aload_n 2, 1) := by decide +kernel
theorem d19_30 : decode jdk_42_method_66_code 30 = .ok (.getfield 15, 3) := by decide +kernel
theorem d19_33 : decode jdk_42_method_66_code 33 = .ok (.if_icmp .ne 21, 3) := by decide +kernel
theorem d19_36 : decode jdk_42_method_66_code 36 = .ok (.aload_n 0, 1) := by decide +kernel
theorem d19_37 : decode jdk_42_method_66_code 37 = .ok (.getfield 9, 3) := by decide +kernel
theorem d19_40 : decode jdk_42_method_66_code 40 = .ok (.aload_n 2, 1) := by decide +kernel
theorem d19_41 : decode jdk_42_method_66_code 41 = .ok (.getfield 9, 3) := by decide +kernel
theorem d19_44 : decode jdk_42_method_66_code 44 = .ok (.invokestatic 541, 3) := by decide +kernel
theorem d19_47 : decode jdk_42_method_66_code 47 = .ok (.ifCond .eq 7, 3) := by decide +kernel
theorem d19_50 : decode jdk_42_method_66_code 50 = .ok (.iconst 1, 1) := by decide +kernel
theorem d19_51 : decode jdk_42_method_66_code 51 = .ok (.goto 4, 3) := by decide +kernel
theorem d19_54 : decode jdk_42_method_66_code 54 = .ok (.iconst 0, 1) := by decide +kernel
theorem d19_55 : decode jdk_42_method_66_code 55 = .ok (.ireturn, 1) := by decide +kernel
theorem pn19 : plainFor (⟨"java/lang/String", "equals", "(Ljava/lang/Object;)Z"⟩ : MethodName) = true := by first | exact plainFor_of_name (by first | (simp [plainName, overriddenIn]; done) | decide +kernel) | decide +kernel
theorem pd19 : parseMethodDescriptor "(Ljava/lang/Object;)Z" = some ⟨[(.object "java/lang/Object")], some .boolean⟩ := by decide +kernel
set_option maxRecDepth 65536 in
set_option maxHeartbeats 40000000 in
theorem sqq (l : Launch) (Z : State) (a0' : Array Value) (hw : ∀ d ∈ tables_1, d.before a0' Z = true) (hEL : EW Z a0' EL0) (hSA : ∀ a ∈ Bundle.stringAtoms, a.before a0' Z = true) (h : Heap) (a : Addr) :
    Con l Z EL0 (⟨"java/lang/String", "equals", "(Ljava/lang/Object;)Z"⟩ : MethodName) jdk_42_method_66_code 3 (some .boolean) ⟨0, 0, 0, 0⟩ #[.ref a, .ref a] h [] (Same (some (.int 1)) h) (fun _ => []) := by
  refine Con.of (Ls := #[.val (.ref a), .val (.ref a), .unset]) hw hEL pn19 (fun m => by first | (simp [entryFrame, mkF, argsToLocals, Value.category, maxLocals]; done) | rfl) fun W C => ?_
  refine C.kept fun hE => ?_
  have z0 : Z.heap.size ≤ h.size := hE.1
  refine C.aloadN 1 d19_0 rfl rfl rfl ?_
  refine C.aloadN 2 d19_1 rfl rfl rfl ?_
  refine C.acmpF 5 d19_2 rfl rfl rfl (by simp [XT.acmp]) ?_
  refine C.iconst 6 (1 : Int32) d19_5 rfl rfl ?_
  exact C.retI .boolean d19_6 rfl (by simp) rfl (by decide) (by decide) ⟨rfl, rfl⟩ (fun _ q => nomatch q)
theorem d8_0 : decode jdk_31_method_11_code 0 = .ok (.aload_n 0, 1) := by decide +kernel
theorem d8_1 : decode jdk_31_method_11_code 1 = .ok (.ifnonnull 12, 3) := by decide +kernel
theorem d8_4 : decode jdk_31_method_11_code 4 = .ok (.new 84, 3) := by decide +kernel
theorem d8_7 : decode jdk_31_method_11_code 7 = .ok (.dup, 1) := by decide +kernel
theorem d8_8 : decode jdk_31_method_11_code 8 = .ok (.aload_n 1, 1) := by decide +kernel
theorem d8_9 : decode jdk_31_method_11_code 9 = .ok (.invokespecial 87, 3) := by decide +kernel
theorem d8_12 : decode jdk_31_method_11_code 12 = .ok (.athrow, 1) := by decide +kernel
theorem d8_13 : decode jdk_31_method_11_code 13 = .ok (.aload_n 0, 1) := by decide +kernel
theorem d8_14 : decode jdk_31_method_11_code 14 = .ok (.areturn, 1) := by decide +kernel
theorem pn8 : plainFor (⟨"java/util/Objects", "requireNonNull", "(Ljava/lang/Object;Ljava/lang/String;)Ljava/lang/Object;"⟩ : MethodName) = true := by first | exact plainFor_of_name (by first | (simp [plainName, overriddenIn]; done) | decide +kernel) | decide +kernel
theorem pd8 : parseMethodDescriptor "(Ljava/lang/Object;Ljava/lang/String;)Ljava/lang/Object;" = some ⟨[(.object "java/lang/Object"), (.object "java/lang/String")], some (.object "java/lang/Object")⟩ := by decide +kernel
set_option maxRecDepth 65536 in
set_option maxHeartbeats 40000000 in
theorem rnn (l : Launch) (Z : State) (a0' : Array Value) (hw : ∀ d ∈ tables_1, d.before a0' Z = true) (hEL : EW Z a0' EL0) (hSA : ∀ a ∈ Bundle.stringAtoms, a.before a0' Z = true) (h : Heap) (a u : Addr) :
    Con l Z EL0 (⟨"java/util/Objects", "requireNonNull", "(Ljava/lang/Object;Ljava/lang/String;)Ljava/lang/Object;"⟩ : MethodName) jdk_31_method_11_code 2 (some (.object "java/lang/Object")) ⟨0, 0, 0, 0⟩ #[.ref a, .ref u] h [] (Same (some (.ref a)) h) (fun _ => []) := by
  refine Con.of (Ls := #[.val (.ref a), .val (.ref u)]) hw hEL pn8 (fun m => by first | (simp [entryFrame, mkF, argsToLocals, Value.category, maxLocals]; done) | rfl) fun W C => ?_
  refine C.kept fun hE => ?_
  have z0 : Z.heap.size ≤ h.size := hE.1
  refine C.aloadN 1 d8_0 rfl rfl rfl ?_
  refine C.ifnonnullT 13 d8_1 rfl ?_
  refine C.aloadN 14 d8_13 rfl rfl rfl ?_
  exact C.retA (.object "java/lang/Object") d8_14 rfl rfl rfl (by decide) (by decide) ⟨rfl, rfl⟩ (fun _ q => nomatch q)
theorem d10_0 : decode prog_5_method_1_code 0 = .ok (.aload_n 0, 1) := by decide +kernel
theorem d10_1 : decode prog_5_method_1_code 1 = .ok (.invokespecial 1, 3) := by decide +kernel
theorem d10_4 : decode prog_5_method_1_code 4 = .ok (.aload_n 0, 1) := by decide +kernel
theorem d10_5 : decode prog_5_method_1_code 5 = .ok (.aload_n 1, 1) := by decide +kernel
theorem d10_6 : decode prog_5_method_1_code 6 = .ok (.putfield 7, 3) := by decide +kernel
theorem d10_9 : decode prog_5_method_1_code 9 = .ok (.aload_n 0, 1) := by decide +kernel
theorem d10_10 : decode prog_5_method_1_code 10 = .ok (.aload_n 2, 1) := by decide +kernel
theorem d10_11 : decode prog_5_method_1_code 11 = .ok (.putfield 13, 3) := by decide +kernel
theorem d10_14 : decode prog_5_method_1_code 14 = .ok (.return_, 1) := by decide +kernel
theorem pn10 : plainFor (⟨"com/example/goneish/goneish/Identifier", "<init>", "(Ljava/lang/String;Lcom/example/goneish/goneish/Identifier$Quoting;)V"⟩ : MethodName) = true := by first | exact plainFor_of_name (by first | (simp [plainName, overriddenIn]; done) | decide +kernel) | decide +kernel
theorem pd10 : parseMethodDescriptor "(Ljava/lang/String;Lcom/example/goneish/goneish/Identifier$Quoting;)V" = some ⟨[(.object "java/lang/String"), (.object "com/example/goneish/goneish/Identifier$Quoting")], none⟩ := by decide +kernel
set_option maxRecDepth 65536 in
set_option maxHeartbeats 40000000 in
theorem idi (l : Launch) (Z : State) (a0' : Array Value) (hw : ∀ d ∈ tables_1, d.before a0' Z = true) (hEL : EW Z a0' EL0) (hSA : ∀ a ∈ Bundle.stringAtoms, a.before a0' Z = true) (h : Heap) (i s q : Addr) (E : Exa Z h i "com/example/goneish/goneish/Identifier") (F0 : Fld Z h i "com/example/goneish/goneish/Identifier" "text" "Ljava/lang/String;" .null) (F1 : Fld Z h i "com/example/goneish/goneish/Identifier" "quoting" "Lcom/example/goneish/goneish/Identifier$Quoting;" .null) :
    Con l Z EL0 (⟨"com/example/goneish/goneish/Identifier", "<init>", "(Ljava/lang/String;Lcom/example/goneish/goneish/Identifier$Quoting;)V"⟩ : MethodName) prog_5_method_1_code 3 none ⟨1, 0, 0, 12⟩ #[.ref i, .ref s, .ref q] h [i] (fun v h' => v = none ∧ Keep h h' [i] ∧ Exa Z h' i "com/example/goneish/goneish/Identifier" ∧ Fld Z h' i "com/example/goneish/goneish/Identifier" "text" "Ljava/lang/String;" (.ref s) ∧ Fld Z h' i "com/example/goneish/goneish/Identifier" "quoting" "Lcom/example/goneish/goneish/Identifier$Quoting;" (.ref q)) (fun _ => []) := by
  refine Con.of (Ls := #[.val (.ref i), .val (.ref s), .val (.ref q)]) hw hEL pn10 (fun m => by first | (simp [entryFrame, mkF, argsToLocals, Value.category, maxLocals]; done) | rfl) fun W C => ?_
  refine C.kept fun hE => ?_
  have z0 : Z.heap.size ≤ h.size := hE.1
  refine C.aloadN 1 d10_0 rfl rfl rfl ?_
  refine C.initObj 4 0 d10_1 rfl (tw 55) (tw 13) (tw 14) rfl (by decide) (Nat.le_of_eq rfl) (by decide) ?_
  refine C.aloadN 5 d10_4 rfl rfl rfl ?_
  refine C.aloadN 6 d10_5 rfl rfl rfl ?_
  refine C.putfield 9 (v' := .ref s) (.object "java/lang/String") d10_6 rfl (tw 56) Via.refl F0 E (Or.inr ⟨(tw 57), rfl, rfl⟩) (tw 48) (by decide) rfl rfl (by simp) ?_
  intro h1 W1
  have z1 : Z.heap.size ≤ h1.size := by rw [W1.size]; exact z0
  have F0' := F0.same W1
  have F1' := F1.other W1 (Or.inr (slot_ne (Or.inr (hw _ (tw 59))) (Or.inr (hw _ (tw 57))) (by decide) (t := (.object "com/example/goneish/goneish/Identifier$Quoting")) (t' := (.object "java/lang/String")) (by decide) (by decide)))
  refine C.aloadN 10 d10_9 rfl rfl rfl ?_
  refine C.aloadN 11 d10_10 rfl rfl rfl ?_
  refine C.putfield 14 (v' := .ref q) (.object "com/example/goneish/goneish/Identifier$Quoting") d10_11 rfl (tw 58) Via.refl F1' (E.wr W1) (Or.inr ⟨(tw 59), rfl, rfl⟩) (tw 48) (by decide) rfl rfl (by simp) ?_
  intro h2 W2
  have z2 : Z.heap.size ≤ h2.size := by rw [W2.size]; exact z1
  exact C.ret0 d10_14 rfl (by decide) (by decide) ⟨rfl, (Keep.of_wr W1).wr W2 (Or.inl (List.mem_of_getElem? (i := 0) rfl)), (E.wr W1).wr W2, F0'.other W2 (Or.inr (slot_ne (Or.inr (hw _ (tw 57))) (Or.inr (hw _ (tw 59))) (by decide) (t := (.object "java/lang/String")) (t' := (.object "com/example/goneish/goneish/Identifier$Quoting")) (by decide) (by decide))), F1'.same W2⟩ (fun _ q => nomatch q)
theorem d7_0 : decode prog_5_method_4_code 0 = .ok (.aload_n 0, 1) := by decide +kernel
theorem d7_1 : decode prog_5_method_4_code 1 = .ok (.ldc 90, 2) := by decide +kernel
theorem d7_3 : decode prog_5_method_4_code 3 = .ok (.invokestatic 19, 3) := by decide +kernel
theorem d7_6 : decode prog_5_method_4_code 6 = .ok (.pop, 1) := by decide +kernel
theorem d7_7 : decode prog_5_method_4_code 7 = .ok (.aload_n 0, 1) := by decide +kernel
theorem d7_8 : decode prog_5_method_4_code 8 = .ok (.invokevirtual 50, 3) := by decide +kernel
theorem d7_11 : decode prog_5_method_4_code 11 = .ok (.ifCond .eq 8, 3) := by decide +kernel
theorem d7_14 : decode prog_5_method_4_code 14 = .ok (.aload_n 0, 1) := by decide +kernel
theorem d7_15 : decode prog_5_method_4_code 15 = .ok (.invokestatic 68, 3) := by decide +kernel
theorem d7_18 : decode prog_5_method_4_code 18 = .ok (.athrow, 1) := by decide +kernel
theorem d7_19 : decode prog_5_method_4_code 19 = .ok (.new 8, 3) := by decide +kernel
theorem d7_22 : decode prog_5_method_4_code 22 = .ok (.dup, 1) := by decide +kernel
theorem d7_23 : decode prog_5_method_4_code 23 = .ok (.aload_n 0, 1) := by decide +kernel
theorem d7_24 : decode prog_5_method_4_code 24 = .ok (.getstatic 37, 3) := by decide +kernel
theorem d7_27 : decode prog_5_method_4_code 27 = .ok (.invokespecial 42, 3) := by decide +kernel
theorem d7_30 : decode prog_5_method_4_code 30 = .ok (.areturn, 1) := by decide +kernel
theorem pn7 : plainFor (⟨"com/example/goneish/goneish/Identifier", "exact", "(Ljava/lang/String;)Lcom/example/goneish/goneish/Identifier;"⟩ : MethodName) = true := by first | exact plainFor_of_name (by first | (simp [plainName, overriddenIn]; done) | decide +kernel) | decide +kernel
theorem pd7 : parseMethodDescriptor "(Ljava/lang/String;)Lcom/example/goneish/goneish/Identifier;" = some ⟨[(.object "java/lang/String")], some (.object "com/example/goneish/goneish/Identifier")⟩ := by decide +kernel
set_option maxRecDepth 65536 in
set_option maxHeartbeats 40000000 in
theorem exact (l : Launch) (Z : State) (a0' : Array Value) (hw : ∀ d ∈ tables_1, d.before a0' Z = true) (hEL : EW Z a0' EL0) (hSA : ∀ a ∈ Bundle.stringAtoms, a.before a0' Z = true) (h : Heap) (s b dq : Addr) (SQ : Sta Z Z.heap "com/example/goneish/goneish/Identifier$Quoting" "DOUBLE_QUOTES" "Lcom/example/goneish/goneish/Identifier$Quoting;" (.ref dq)) (cs : List Int32) (hn : cs.length < 2 ^ 28) (h0 : cs.length ≠ 0) (T : Str Z h s b cs) :
    Con l Z EL0 (⟨"com/example/goneish/goneish/Identifier", "exact", "(Ljava/lang/String;)Lcom/example/goneish/goneish/Identifier;"⟩ : MethodName) prog_5_method_4_code 1 (some (.object "com/example/goneish/goneish/Identifier")) ⟨2, 3, 22, 29⟩ #[.ref s] h [] (fun v h' => ∃ i, v = some (.ref i) ∧ Str Z h' s b cs ∧ Exa Z h' i "com/example/goneish/goneish/Identifier" ∧ Fld Z h' i "com/example/goneish/goneish/Identifier" "text" "Ljava/lang/String;" (.ref s) ∧ Fld Z h' i "com/example/goneish/goneish/Identifier" "quoting" "Lcom/example/goneish/goneish/Identifier$Quoting;" (.ref dq)) (fun _ => []) := by
  refine Con.of (Ls := #[.val (.ref s)]) hw hEL pn7 (fun m => by first | (simp [entryFrame, mkF, argsToLocals, Value.category, maxLocals]; done) | rfl) fun W C => ?_
  refine C.kept fun hE => ?_
  have z0 : Z.heap.size ≤ h.size := hE.1
  refine C.aloadN 1 d7_0 rfl rfl rfl ?_
  refine C.ldcO 3 16 d7_1 rfl (tw 35) hSA (by decide) (by decide) (by decide) (by decide) ?_
  intro h1 u E1
  have T1 := T.ext E1
  have z1 : Z.heap.size ≤ h1.size := Nat.le_trans z0 E1.1
  show W h1 [] 2 20 3 #[.val (.ref s)] [.ref u, .ref s]
  refine C.callS 6 (as := [.ref s, .ref u]) (rest := []) (rm := ⟨0, 0, 0, 0⟩) 0 d7_3 rfl (tw 38) (tw 39) (tw 40) (tw 41) (by decide) (rnn l Z a0' hw hEL hSA h1 s u) (by simp) pd8 rfl rfl (Nat.le_of_eq rfl) (by decide) (by decide) (by decide) (by decide) rfl ?_
  refine same_intro ?_
  show W h1 [] 2 20 6 #[.val (.ref s)] [.ref s]
  refine C.pop 7 d7_6 rfl rfl ?_
  refine C.aloadN 8 d7_7 rfl rfl rfl ?_
  refine C.callV 11 (as := []) (rest := []) (rm := ⟨0, 0, 0, 0⟩) 0 d7_8 rfl (tw 42) (tw 43) (tw 45) nfSelf (tw 44) (tw 4) (tw 46) (by decide) T1.1 (sne l Z a0' hw hEL hSA h1 s b cs hn h0 T1) (by simp) pd9 rfl rfl (Nat.le_of_eq rfl) (by decide) (by decide) (by decide) (by decide) rfl ?_
  refine same_intro ?_
  show W h1 [] 2 20 11 #[.val (.ref s)] [.int (0 : Int32)]
  refine C.ifT 19 d7_11 rfl (by decide) ?_
  refine C.new 22 d7_19 rfl (tw 47) (tw 48) (tw 33) (by decide) (by decide) ?_
  intro h2 E2 X2 D2
  obtain ⟨b2, g2⟩ : ∃ z, z = h1.size := ⟨_, rfl⟩
  rw [← g2] at X2 ⊢
  rw [← g2] at D2
  have z2 : Z.heap.size ≤ h2.size := Nat.le_trans z1 E2.1
  have zb2 : Z.heap.size ≤ b2 := by rw [g2]; exact z1
  show W h2 [b2] 3 22 22 #[.val (.ref s)] [.ref b2]
  refine C.dup 23 d7_22 rfl rfl ?_
  refine C.aloadN 24 d7_23 rfl rfl rfl ?_
  refine C.getstatic 27 d7_24 rfl (tw 49) SQ ?_
  have N0 : Fld Z h2 b2 "com/example/goneish/goneish/Identifier" "text" "Ljava/lang/String;" .null := D2 (Or.inr (hw _ (tw 57))) (ty := (.object "java/lang/String")) (by decide)
  have N1 : Fld Z h2 b2 "com/example/goneish/goneish/Identifier" "quoting" "Lcom/example/goneish/goneish/Identifier$Quoting;" .null := D2 (Or.inr (hw _ (tw 59))) (ty := (.object "com/example/goneish/goneish/Identifier$Quoting")) (by decide)
  have T2 := T1.ext E2
  have ns : s ≠ b2 := by rw [g2]; exact Nat.ne_of_lt T1.1.lt
  have nb : b ≠ b2 := by rw [g2]; exact Nat.ne_of_lt T1.2.2.2.lt
  refine C.callI 30 (a := b2) (as := [.ref s, .ref dq]) (rest := [.ref b2]) (rm := ⟨1, 0, 0, 12⟩) 1 d7_27 rfl rfl rfl (tw 52) (tw 53) (tw 33) (tw 54) (by decide) (idi l Z a0' hw hEL hSA h2 b2 s dq X2 N0 N1) (by simp) pd10 rfl rfl (Nat.le_of_eq rfl) (by decide) (by decide) (by decide) (by decide) rfl ?_
  rintro v h3 ⟨rfl, K3, Y3, G0, G1⟩
  show W h3 [b2] 3 22 30 #[.val (.ref s)] [.ref b2]
  exact C.retA (.object "com/example/goneish/goneish/Identifier") d7_30 rfl rfl rfl (by decide) (by decide) ⟨b2, rfl, T2.keep K3 (ninS ns nin0) (ninS nb nin0), Y3, G0, G1⟩ (fun _ q => nomatch q)
theorem d11_0 : decode prog_5_method_6_code 0 = .ok (.aload_n 0, 1) := by decide +kernel
theorem d11_1 : decode prog_5_method_6_code 1 = .ok (.getfield 7, 3) := by decide +kernel
theorem d11_4 : decode prog_5_method_6_code 4 = .ok (.areturn, 1) := by decide +kernel
theorem pn11 : plainFor (⟨"com/example/goneish/goneish/Identifier", "text", "()Ljava/lang/String;"⟩ : MethodName) = true := by first | exact plainFor_of_name (by first | (simp [plainName, overriddenIn]; done) | decide +kernel) | decide +kernel
theorem pd11 : parseMethodDescriptor "()Ljava/lang/String;" = some ⟨[], some (.object "java/lang/String")⟩ := by decide +kernel
set_option maxRecDepth 65536 in
set_option maxHeartbeats 40000000 in
theorem itx (l : Launch) (Z : State) (a0' : Array Value) (hw : ∀ d ∈ tables_1, d.before a0' Z = true) (hEL : EW Z a0' EL0) (hSA : ∀ a ∈ Bundle.stringAtoms, a.before a0' Z = true) (h : Heap) (i t : Addr) (F : Fld Z h i "com/example/goneish/goneish/Identifier" "text" "Ljava/lang/String;" (.ref t)) :
    Con l Z EL0 (⟨"com/example/goneish/goneish/Identifier", "text", "()Ljava/lang/String;"⟩ : MethodName) prog_5_method_6_code 1 (some (.object "java/lang/String")) ⟨0, 0, 0, 0⟩ #[.ref i] h [] (Same (some (.ref t)) h) (fun _ => []) := by
  refine Con.of (Ls := #[.val (.ref i)]) hw hEL pn11 (fun m => by first | (simp [entryFrame, mkF, argsToLocals, Value.category, maxLocals]; done) | rfl) fun W C => ?_
  refine C.kept fun hE => ?_
  have z0 : Z.heap.size ≤ h.size := hE.1
  refine C.aloadN 1 d11_0 rfl rfl rfl ?_
  refine C.getfield 4 d11_1 rfl (tw 56) Via.refl F ?_
  exact C.retA (.object "java/lang/String") d11_4 rfl rfl rfl (by decide) (by decide) ⟨rfl, rfl⟩ (fun _ q => nomatch q)
theorem d20_0 : decode prog_5_method_7_code 0 = .ok (.aload_n 0, 1) := by decide +kernel
theorem d20_1 : decode prog_5_method_7_code 1 = .ok (.getfield 13, 3) := by decide +kernel
theorem d20_4 : decode prog_5_method_7_code 4 = .ok (.areturn, 1) := by decide +kernel
theorem pn20 : plainFor (⟨"com/example/goneish/goneish/Identifier", "quoting", "()Lcom/example/goneish/goneish/Identifier$Quoting;"⟩ : MethodName) = true := by first | exact plainFor_of_name (by first | (simp [plainName, overriddenIn]; done) | decide +kernel) | decide +kernel
theorem pd20 : parseMethodDescriptor "()Lcom/example/goneish/goneish/Identifier$Quoting;" = some ⟨[], some (.object "com/example/goneish/goneish/Identifier$Quoting")⟩ := by decide +kernel
set_option maxRecDepth 65536 in
set_option maxHeartbeats 40000000 in
theorem iqu (l : Launch) (Z : State) (a0' : Array Value) (hw : ∀ d ∈ tables_1, d.before a0' Z = true) (hEL : EW Z a0' EL0) (hSA : ∀ a ∈ Bundle.stringAtoms, a.before a0' Z = true) (h : Heap) (i t : Addr) (F : Fld Z h i "com/example/goneish/goneish/Identifier" "quoting" "Lcom/example/goneish/goneish/Identifier$Quoting;" (.ref t)) :
    Con l Z EL0 (⟨"com/example/goneish/goneish/Identifier", "quoting", "()Lcom/example/goneish/goneish/Identifier$Quoting;"⟩ : MethodName) prog_5_method_7_code 1 (some (.object "com/example/goneish/goneish/Identifier$Quoting")) ⟨0, 0, 0, 0⟩ #[.ref i] h [] (Same (some (.ref t)) h) (fun _ => []) := by
  refine Con.of (Ls := #[.val (.ref i)]) hw hEL pn20 (fun m => by first | (simp [entryFrame, mkF, argsToLocals, Value.category, maxLocals]; done) | rfl) fun W C => ?_
  refine C.kept fun hE => ?_
  have z0 : Z.heap.size ≤ h.size := hE.1
  refine C.aloadN 1 d20_0 rfl rfl rfl ?_
  refine C.getfield 4 d20_1 rfl (tw 58) Via.refl F ?_
  exact C.retA (.object "com/example/goneish/goneish/Identifier$Quoting") d20_4 rfl rfl rfl (by decide) (by decide) ⟨rfl, rfl⟩ (fun _ q => nomatch q)
theorem ch16 (a : Int32) : Ch (a &&& (65535 : Int32)).toUInt32.toUInt16.toUInt32.toInt32 := by
  have q := c_i2c (a &&& (65535 : Int32))
  exact ⟨q.2.1, q.2.2⟩
theorem and3 (p : Int32) : ∃ i : Nat, i < 4 ∧ p &&& (3 : Int32) = Int32.ofNat i := by
  have h1 := c_and p (3 : Int32) (by decide)
  have e : (3 : Int32).toInt = 3 := rfl
  rw [e] at h1
  generalize p &&& (3 : Int32) = r at h1 ⊢
  refine ⟨r.toInt.toNat, by omega, Int32.toInt_inj.mp ?_⟩
  rw [Int32.toInt_ofNat_of_lt (by omega)]; omega
set_option maxRecDepth 65536 in
set_option maxHeartbeats 40000000 in
theorem law_con (l : Launch) (Z : State) (a0' : Array Value) (hw : ∀ d ∈ tables_1, d.before a0' Z = true) (hEL : EW Z a0' EL0) (hSA : ∀ a ∈ Bundle.stringAtoms, a.before a0' Z = true) (n a b c d : Int32) (cpt : Int32) (SCP : Sta Z Z.heap "java/lang/String" "COMPACT_STRINGS" "Z" (.int cpt)) (hcp : ¬ cpt = 0) (SAD : Sta Z Z.heap "java/lang/StringUTF16" "$assertionsDisabled" "Z" (.int (1 : Int32))) (SHI : Sta Z Z.heap "java/lang/StringUTF16" "HI_BYTE_SHIFT" "I" (.int (0 : Int32))) (SLO : Sta Z Z.heap "java/lang/StringUTF16" "LO_BYTE_SHIFT" "I" (.int (8 : Int32))) (sf : Value) (hsf : sf.isRef = true) (SSF : Sta Z Z.heap "jdk/internal/util/Preconditions" "SIOOBE_FORMATTER" "Ljava/util/function/BiFunction;" sf) (dq : Addr) (SQ : Sta Z Z.heap "com/example/goneish/goneish/Identifier$Quoting" "DOUBLE_QUOTES" "Lcom/example/goneish/goneish/Identifier$Quoting;" (.ref dq)) :
    Con l Z EL0 x code maxLocals ret room_1 #[.int n, .int a, .int b, .int c, .int d] Z.heap [] (fun v _ => v = some (.int 1)) (fun _ => []) := by
  refine Con.of (Ls := #[.val (.int n), .val (.int a), .val (.int b), .val (.int c), .val (.int d), .unset, .unset, .unset, .unset, .unset, .unset, .unset, .unset, .unset, .unset, .unset, .unset]) hw hEL pn0 (fun m => by first | (simp [entryFrame, mkF, argsToLocals, Value.category, maxLocals]; done) | rfl) fun W C => ?_
  have z0 : Z.heap.size ≤ Z.heap.size := Nat.le_refl _
  refine C.iconst 1 (1 : Int32) at_0 rfl rfl ?_
  refine C.iloadN 2 at_1 rfl rfl ?_
  refine C.iconst 3 (3 : Int32) at_2 rfl rfl ?_
  refine C.iand 4 at_3 rfl ?_
  refine C.iadd 5 at_4 rfl ?_
  refine C.istore 7 #[.val (.int n), .val (.int a), .val (.int b), .val (.int c), .val (.int d), .val (.int ((1 : Int32) + (n &&& (3 : Int32)))), .unset, .unset, .unset, .unset, .unset, .unset, .unset, .unset, .unset, .unset, .unset] at_5 rfl rfl ?_
  refine C.iloadN 8 at_7 rfl rfl ?_
  refine C.ldc 10 (65535 : Int32) at_8 rfl (tw 0) ?_
  refine C.iand 11 at_10 rfl ?_
  refine C.i2c 12 at_11 rfl ?_
  refine C.istore 14 #[.val (.int n), .val (.int a), .val (.int b), .val (.int c), .val (.int d), .val (.int ((1 : Int32) + (n &&& (3 : Int32)))), .val (.int (Int32.toUInt32 (a &&& (65535 : Int32))).toUInt16.toUInt32.toInt32), .unset, .unset, .unset, .unset, .unset, .unset, .unset, .unset, .unset, .unset] at_12 rfl rfl ?_
  refine C.iloadN 15 at_14 rfl rfl ?_
  refine C.ldc 17 (65535 : Int32) at_15 rfl (tw 0) ?_
  refine C.iand 18 at_17 rfl ?_
  refine C.i2c 19 at_18 rfl ?_
  refine C.istore 21 #[.val (.int n), .val (.int a), .val (.int b), .val (.int c), .val (.int d), .val (.int ((1 : Int32) + (n &&& (3 : Int32)))), .val (.int (Int32.toUInt32 (a &&& (65535 : Int32))).toUInt16.toUInt32.toInt32), .val (.int (Int32.toUInt32 (b &&& (65535 : Int32))).toUInt16.toUInt32.toInt32), .unset, .unset, .unset, .unset, .unset, .unset, .unset, .unset, .unset] at_19 rfl rfl ?_
  refine C.iloadN 22 at_21 rfl rfl ?_
  refine C.ldc 24 (65535 : Int32) at_22 rfl (tw 0) ?_
  refine C.iand 25 at_24 rfl ?_
  refine C.i2c 26 at_25 rfl ?_
  refine C.istore 28 #[.val (.int n), .val (.int a), .val (.int b), .val (.int c), .val (.int d), .val (.int ((1 : Int32) + (n &&& (3 : Int32)))), .val (.int (Int32.toUInt32 (a &&& (65535 : Int32))).toUInt16.toUInt32.toInt32), .val (.int (Int32.toUInt32 (b &&& (65535 : Int32))).toUInt16.toUInt32.toInt32), .val (.int (Int32.toUInt32 (c &&& (65535 : Int32))).toUInt16.toUInt32.toInt32), .unset, .unset, .unset, .unset, .unset, .unset, .unset, .unset] at_26 rfl rfl ?_
  refine C.iload 30 at_28 rfl rfl ?_
  refine C.ldc 32 (65535 : Int32) at_30 rfl (tw 0) ?_
  refine C.iand 33 at_32 rfl ?_
  refine C.i2c 34 at_33 rfl ?_
  refine C.istore 36 #[.val (.int n), .val (.int a), .val (.int b), .val (.int c), .val (.int d), .val (.int ((1 : Int32) + (n &&& (3 : Int32)))), .val (.int (Int32.toUInt32 (a &&& (65535 : Int32))).toUInt16.toUInt32.toInt32), .val (.int (Int32.toUInt32 (b &&& (65535 : Int32))).toUInt16.toUInt32.toInt32), .val (.int (Int32.toUInt32 (c &&& (65535 : Int32))).toUInt16.toUInt32.toInt32), .val (.int (Int32.toUInt32 (d &&& (65535 : Int32))).toUInt16.toUInt32.toInt32), .unset, .unset, .unset, .unset, .unset, .unset, .unset] at_34 rfl rfl ?_
  refine C.iconst 37 (1 : Int32) at_36 rfl rfl ?_
  have hc0 := ch16 a
  generalize (a &&& (65535 : Int32)).toUInt32.toUInt16.toUInt32.toInt32 = c0 at hc0 ⊢
  have hc1 := ch16 b
  generalize (b &&& (65535 : Int32)).toUInt32.toUInt16.toUInt32.toInt32 = c1 at hc1 ⊢
  have hc2 := ch16 c
  generalize (c &&& (65535 : Int32)).toUInt32.toUInt16.toUInt32.toInt32 = c2 at hc2 ⊢
  have hc3 := ch16 d
  generalize (d &&& (65535 : Int32)).toUInt32.toUInt16.toUInt32.toInt32 = c3 at hc3 ⊢
  refine C.newarray 39 1 at_37 rfl (tw 1) (by decide) (by decide) (by decide) (by decide) (by decide) ?_
  intro h1 E1 A1
  obtain ⟨b1, g1⟩ : ∃ z, z = Z.heap.size := ⟨_, rfl⟩
  rw [← g1] at A1 ⊢
  have Ab1_1 : Al Z h1 b1 .char [.int (0 : Int32)] := A1
  have z1 : Z.heap.size ≤ h1.size := Nat.le_trans z0 E1.1
  have zb1 : Z.heap.size ≤ b1 := by rw [g1]; exact z0
  show W h1 [b1] 1 1 39 #[.val (.int n), .val (.int a), .val (.int b), .val (.int c), .val (.int d), .val (.int ((1 : Int32) + (n &&& (3 : Int32)))), .val (.int c0), .val (.int c1), .val (.int c2), .val (.int c3), .unset, .unset, .unset, .unset, .unset, .unset, .unset] [.ref b1]
  refine C.dup 40 at_39 rfl rfl ?_
  refine C.iconst 41 (0 : Int32) at_40 rfl rfl ?_
  refine C.iload 43 at_41 rfl rfl ?_
  refine C.castore 44 0 c0 at_43 rfl Ab1_1 (by simp) (by decide) rfl (Nat.le_of_ble_eq_true rfl) (ch_nar hc0) ?_
  intro h2 W2 A2
  have Ab1_2 : Al Z h2 b1 .char [.int c0] := A2
  have z2 : Z.heap.size ≤ h2.size := by rw [W2.size]; exact z1
  refine C.astore 46 #[.val (.int n), .val (.int a), .val (.int b), .val (.int c), .val (.int d), .val (.int ((1 : Int32) + (n &&& (3 : Int32)))), .val (.int c0), .val (.int c1), .val (.int c2), .val (.int c3), .val (.ref b1), .unset, .unset, .unset, .unset, .unset, .unset] at_44 rfl rfl rfl ?_
  refine C.iconst 47 (2 : Int32) at_46 rfl rfl ?_
  refine C.newarray 49 2 at_47 rfl (tw 1) (by decide) (by decide) (by decide) (by decide) (by decide) ?_
  intro h3 E3 A3
  obtain ⟨b3, g3⟩ : ∃ z, z = h2.size := ⟨_, rfl⟩
  rw [← g3] at A3 ⊢
  have Ab3_3 : Al Z h3 b3 .char [.int (0 : Int32), .int (0 : Int32)] := A3
  have z3 : Z.heap.size ≤ h3.size := Nat.le_trans z2 E3.1
  have zb3 : Z.heap.size ≤ b3 := by rw [g3]; exact z2
  have Ab1_3 := Ab1_2.ext E3
  show W h3 [b3, b1] 2 3 49 #[.val (.int n), .val (.int a), .val (.int b), .val (.int c), .val (.int d), .val (.int ((1 : Int32) + (n &&& (3 : Int32)))), .val (.int c0), .val (.int c1), .val (.int c2), .val (.int c3), .val (.ref b1), .unset, .unset, .unset, .unset, .unset, .unset] [.ref b3]
  have ne_b1_b3 : b1 ≠ b3 := by rw [g3]; exact Nat.ne_of_lt Ab1_2.lt
  refine C.dup 50 at_49 rfl rfl ?_
  refine C.iconst 51 (0 : Int32) at_50 rfl rfl ?_
  refine C.iload 53 at_51 rfl rfl ?_
  refine C.castore 54 0 c0 at_53 rfl Ab3_3 (by simp) (by decide) rfl (Nat.le_of_ble_eq_true rfl) (ch_nar hc0) ?_
  intro h4 W4 A4
  have Ab3_4 : Al Z h4 b3 .char [.int c0, .int (0 : Int32)] := A4
  have z4 : Z.heap.size ≤ h4.size := by rw [W4.size]; exact z3
  have Ab1_4 := Ab1_3.keep (Keep.of_wr W4) (ninS ne_b1_b3 nin0)
  refine C.dup 55 at_54 rfl rfl ?_
  refine C.iconst 56 (1 : Int32) at_55 rfl rfl ?_
  refine C.iload 58 at_56 rfl rfl ?_
  refine C.castore 59 1 c1 at_58 rfl Ab3_4 (by simp) (by decide) rfl (Nat.le_of_ble_eq_true rfl) (ch_nar hc1) ?_
  intro h5 W5 A5
  have Ab3_5 : Al Z h5 b3 .char [.int c0, .int c1] := A5
  have z5 : Z.heap.size ≤ h5.size := by rw [W5.size]; exact z4
  have Ab1_5 := Ab1_4.keep (Keep.of_wr W5) (ninS ne_b1_b3 nin0)
  refine C.astore 61 #[.val (.int n), .val (.int a), .val (.int b), .val (.int c), .val (.int d), .val (.int ((1 : Int32) + (n &&& (3 : Int32)))), .val (.int c0), .val (.int c1), .val (.int c2), .val (.int c3), .val (.ref b1), .val (.ref b3), .unset, .unset, .unset, .unset, .unset] at_59 rfl rfl rfl ?_
  refine C.iconst 62 (3 : Int32) at_61 rfl rfl ?_
  refine C.newarray 64 3 at_62 rfl (tw 1) (by decide) (by decide) (by decide) (by decide) (by decide) ?_
  intro h6 E6 A6
  obtain ⟨b6, g6⟩ : ∃ z, z = h5.size := ⟨_, rfl⟩
  rw [← g6] at A6 ⊢
  have Ab6_6 : Al Z h6 b6 .char [.int (0 : Int32), .int (0 : Int32), .int (0 : Int32)] := A6
  have z6 : Z.heap.size ≤ h6.size := Nat.le_trans z5 E6.1
  have zb6 : Z.heap.size ≤ b6 := by rw [g6]; exact z5
  have Ab1_6 := Ab1_5.ext E6
  have Ab3_6 := Ab3_5.ext E6
  show W h6 [b6, b3, b1] 3 6 64 #[.val (.int n), .val (.int a), .val (.int b), .val (.int c), .val (.int d), .val (.int ((1 : Int32) + (n &&& (3 : Int32)))), .val (.int c0), .val (.int c1), .val (.int c2), .val (.int c3), .val (.ref b1), .val (.ref b3), .unset, .unset, .unset, .unset, .unset] [.ref b6]
  have ne_b1_b6 : b1 ≠ b6 := by rw [g6]; exact Nat.ne_of_lt Ab1_5.lt
  have ne_b3_b6 : b3 ≠ b6 := by rw [g6]; exact Nat.ne_of_lt Ab3_5.lt
  refine C.dup 65 at_64 rfl rfl ?_
  refine C.iconst 66 (0 : Int32) at_65 rfl rfl ?_
  refine C.iload 68 at_66 rfl rfl ?_
  refine C.castore 69 0 c0 at_68 rfl Ab6_6 (by simp) (by decide) rfl (Nat.le_of_ble_eq_true rfl) (ch_nar hc0) ?_
  intro h7 W7 A7
  have Ab6_7 : Al Z h7 b6 .char [.int c0, .int (0 : Int32), .int (0 : Int32)] := A7
  have z7 : Z.heap.size ≤ h7.size := by rw [W7.size]; exact z6
  have Ab1_7 := Ab1_6.keep (Keep.of_wr W7) (ninS ne_b1_b6 nin0)
  have Ab3_7 := Ab3_6.keep (Keep.of_wr W7) (ninS ne_b3_b6 nin0)
  refine C.dup 70 at_69 rfl rfl ?_
  refine C.iconst 71 (1 : Int32) at_70 rfl rfl ?_
  refine C.iload 73 at_71 rfl rfl ?_
  refine C.castore 74 1 c1 at_73 rfl Ab6_7 (by simp) (by decide) rfl (Nat.le_of_ble_eq_true rfl) (ch_nar hc1) ?_
  intro h8 W8 A8
  have Ab6_8 : Al Z h8 b6 .char [.int c0, .int c1, .int (0 : Int32)] := A8
  have z8 : Z.heap.size ≤ h8.size := by rw [W8.size]; exact z7
  have Ab1_8 := Ab1_7.keep (Keep.of_wr W8) (ninS ne_b1_b6 nin0)
  have Ab3_8 := Ab3_7.keep (Keep.of_wr W8) (ninS ne_b3_b6 nin0)
  refine C.dup 75 at_74 rfl rfl ?_
  refine C.iconst 76 (2 : Int32) at_75 rfl rfl ?_
  refine C.iload 78 at_76 rfl rfl ?_
  refine C.castore 79 2 c2 at_78 rfl Ab6_8 (by simp) (by decide) rfl (Nat.le_of_ble_eq_true rfl) (ch_nar hc2) ?_
  intro h9 W9 A9
  have Ab6_9 : Al Z h9 b6 .char [.int c0, .int c1, .int c2] := A9
  have z9 : Z.heap.size ≤ h9.size := by rw [W9.size]; exact z8
  have Ab1_9 := Ab1_8.keep (Keep.of_wr W9) (ninS ne_b1_b6 nin0)
  have Ab3_9 := Ab3_8.keep (Keep.of_wr W9) (ninS ne_b3_b6 nin0)
  refine C.astore 81 #[.val (.int n), .val (.int a), .val (.int b), .val (.int c), .val (.int d), .val (.int ((1 : Int32) + (n &&& (3 : Int32)))), .val (.int c0), .val (.int c1), .val (.int c2), .val (.int c3), .val (.ref b1), .val (.ref b3), .val (.ref b6), .unset, .unset, .unset, .unset] at_79 rfl rfl rfl ?_
  refine C.iconst 82 (4 : Int32) at_81 rfl rfl ?_
  refine C.newarray 84 4 at_82 rfl (tw 1) (by decide) (by decide) (by decide) (by decide) (by decide) ?_
  intro h10 E10 A10
  obtain ⟨b10, g10⟩ : ∃ z, z = h9.size := ⟨_, rfl⟩
  rw [← g10] at A10 ⊢
  have Ab10_10 : Al Z h10 b10 .char [.int (0 : Int32), .int (0 : Int32), .int (0 : Int32), .int (0 : Int32)] := A10
  have z10 : Z.heap.size ≤ h10.size := Nat.le_trans z9 E10.1
  have zb10 : Z.heap.size ≤ b10 := by rw [g10]; exact z9
  have Ab1_10 := Ab1_9.ext E10
  have Ab3_10 := Ab3_9.ext E10
  have Ab6_10 := Ab6_9.ext E10
  show W h10 [b10, b6, b3, b1] 4 10 84 #[.val (.int n), .val (.int a), .val (.int b), .val (.int c), .val (.int d), .val (.int ((1 : Int32) + (n &&& (3 : Int32)))), .val (.int c0), .val (.int c1), .val (.int c2), .val (.int c3), .val (.ref b1), .val (.ref b3), .val (.ref b6), .unset, .unset, .unset, .unset] [.ref b10]
  have ne_b1_b10 : b1 ≠ b10 := by rw [g10]; exact Nat.ne_of_lt Ab1_9.lt
  have ne_b3_b10 : b3 ≠ b10 := by rw [g10]; exact Nat.ne_of_lt Ab3_9.lt
  have ne_b6_b10 : b6 ≠ b10 := by rw [g10]; exact Nat.ne_of_lt Ab6_9.lt
  refine C.dup 85 at_84 rfl rfl ?_
  refine C.iconst 86 (0 : Int32) at_85 rfl rfl ?_
  refine C.iload 88 at_86 rfl rfl ?_
  refine C.castore 89 0 c0 at_88 rfl Ab10_10 (by simp) (by decide) rfl (Nat.le_of_ble_eq_true rfl) (ch_nar hc0) ?_
  intro h11 W11 A11
  have Ab10_11 : Al Z h11 b10 .char [.int c0, .int (0 : Int32), .int (0 : Int32), .int (0 : Int32)] := A11
  have z11 : Z.heap.size ≤ h11.size := by rw [W11.size]; exact z10
  have Ab1_11 := Ab1_10.keep (Keep.of_wr W11) (ninS ne_b1_b10 nin0)
  have Ab3_11 := Ab3_10.keep (Keep.of_wr W11) (ninS ne_b3_b10 nin0)
  have Ab6_11 := Ab6_10.keep (Keep.of_wr W11) (ninS ne_b6_b10 nin0)
  refine C.dup 90 at_89 rfl rfl ?_
  refine C.iconst 91 (1 : Int32) at_90 rfl rfl ?_
  refine C.iload 93 at_91 rfl rfl ?_
  refine C.castore 94 1 c1 at_93 rfl Ab10_11 (by simp) (by decide) rfl (Nat.le_of_ble_eq_true rfl) (ch_nar hc1) ?_
  intro h12 W12 A12
  have Ab10_12 : Al Z h12 b10 .char [.int c0, .int c1, .int (0 : Int32), .int (0 : Int32)] := A12
  have z12 : Z.heap.size ≤ h12.size := by rw [W12.size]; exact z11
  have Ab1_12 := Ab1_11.keep (Keep.of_wr W12) (ninS ne_b1_b10 nin0)
  have Ab3_12 := Ab3_11.keep (Keep.of_wr W12) (ninS ne_b3_b10 nin0)
  have Ab6_12 := Ab6_11.keep (Keep.of_wr W12) (ninS ne_b6_b10 nin0)
  refine C.dup 95 at_94 rfl rfl ?_
  refine C.iconst 96 (2 : Int32) at_95 rfl rfl ?_
  refine C.iload 98 at_96 rfl rfl ?_
  refine C.castore 99 2 c2 at_98 rfl Ab10_12 (by simp) (by decide) rfl (Nat.le_of_ble_eq_true rfl) (ch_nar hc2) ?_
  intro h13 W13 A13
  have Ab10_13 : Al Z h13 b10 .char [.int c0, .int c1, .int c2, .int (0 : Int32)] := A13
  have z13 : Z.heap.size ≤ h13.size := by rw [W13.size]; exact z12
  have Ab1_13 := Ab1_12.keep (Keep.of_wr W13) (ninS ne_b1_b10 nin0)
  have Ab3_13 := Ab3_12.keep (Keep.of_wr W13) (ninS ne_b3_b10 nin0)
  have Ab6_13 := Ab6_12.keep (Keep.of_wr W13) (ninS ne_b6_b10 nin0)
  refine C.dup 100 at_99 rfl rfl ?_
  refine C.iconst 101 (3 : Int32) at_100 rfl rfl ?_
  refine C.iload 103 at_101 rfl rfl ?_
  refine C.castore 104 3 c3 at_103 rfl Ab10_13 (by simp) (by decide) rfl (Nat.le_of_ble_eq_true rfl) (ch_nar hc3) ?_
  intro h14 W14 A14
  have Ab10_14 : Al Z h14 b10 .char [.int c0, .int c1, .int c2, .int c3] := A14
  have z14 : Z.heap.size ≤ h14.size := by rw [W14.size]; exact z13
  have Ab1_14 := Ab1_13.keep (Keep.of_wr W14) (ninS ne_b1_b10 nin0)
  have Ab3_14 := Ab3_13.keep (Keep.of_wr W14) (ninS ne_b3_b10 nin0)
  have Ab6_14 := Ab6_13.keep (Keep.of_wr W14) (ninS ne_b6_b10 nin0)
  refine C.astore 106 #[.val (.int n), .val (.int a), .val (.int b), .val (.int c), .val (.int d), .val (.int ((1 : Int32) + (n &&& (3 : Int32)))), .val (.int c0), .val (.int c1), .val (.int c2), .val (.int c3), .val (.ref b1), .val (.ref b3), .val (.ref b6), .val (.ref b10), .unset, .unset, .unset] at_104 rfl rfl rfl ?_
  refine C.iload 108 at_106 rfl rfl ?_
  refine C.iconst 109 (1 : Int32) at_108 rfl rfl ?_
  obtain ⟨i, hi, e⟩ := and3 n
  generalize n &&& (3 : Int32) = q at e ⊢
  subst e
  match i, hi with
  | 0, _ =>
    show W h14 [b10, b6, b3, b1] 4 10 109 #[.val (.int n), .val (.int a), .val (.int b), .val (.int c), .val (.int d), .val (.int (1 : Int32)), .val (.int c0), .val (.int c1), .val (.int c2), .val (.int c3), .val (.ref b1), .val (.ref b3), .val (.ref b6), .val (.ref b10), .unset, .unset, .unset] [.int (1 : Int32), .int (1 : Int32)]
    refine C.icmpF 112 at_109 rfl (by decide) ?_
    have hch : ∀ z ∈ ([c0] : List Int32), Ch z := (fun z hz => by simp only [List.mem_cons, List.not_mem_nil, or_false] at hz; rcases hz with rfl <;> assumption)
    refine C.new 115 at_112 rfl (tw 2) (tw 3) (tw 4) (by decide) (by decide) ?_
    intro h15 E15 X15 D15
    obtain ⟨b15, g15⟩ : ∃ z, z = h14.size := ⟨_, rfl⟩
    rw [← g15] at X15 ⊢
    rw [← g15] at D15
    have z15 : Z.heap.size ≤ h15.size := Nat.le_trans z14 E15.1
    have zb15 : Z.heap.size ≤ b15 := by rw [g15]; exact z14
    show W h15 [b15, b10, b6, b3, b1] 5 14 115 #[.val (.int n), .val (.int a), .val (.int b), .val (.int c), .val (.int d), .val (.int (1 : Int32)), .val (.int c0), .val (.int c1), .val (.int c2), .val (.int c3), .val (.ref b1), .val (.ref b3), .val (.ref b6), .val (.ref b10), .unset, .unset, .unset] [.ref b15]
    have NV15 : Fld Z h15 b15 "java/lang/String" "value" "[B" .null := D15 (Or.inr (hw _ (tw 30))) (ty := (.array .byte)) (by decide)
    have NC15 : Fld Z h15 b15 "java/lang/String" "coder" "B" (.int (0 : Int32)) := D15 (Or.inr (hw _ (tw 28))) (ty := .byte) (by decide)
    have AC15 : Al Z h15 b1 .char (iv' [c0]) := Ab1_14.ext E15
    refine C.dup 116 at_115 rfl rfl ?_
    refine C.aload 118 at_116 rfl rfl rfl ?_
    refine C.callI 121 (a := b15) (as := [.ref b1]) (rest := [.ref b15]) (rm := ⟨5, 2, 12, 94⟩) 1 at_118 rfl rfl rfl (tw 5) (tw 6) (tw 4) (tw 7) (by decide) (si1 l Z a0' hw hEL hSA h15 b15 b1 cpt SCP hcp SAD SHI SLO [c0] (by simp) (by simp) hch  X15 NV15 NC15 AC15) (by simp) pd1 rfl rfl (Nat.le_of_eq rfl) (by decide) (by decide) (by decide) (by decide) rfl ?_
    rintro v h16 ⟨s15, rfl, sn15, K16, T15⟩
    have z16 : Z.heap.size ≤ h16.size := Nat.le_trans z15 K16.1
    show W h16 [b15, b10, b6, b3, b1] 7 26 121 #[.val (.int n), .val (.int a), .val (.int b), .val (.int c), .val (.int d), .val (.int (1 : Int32)), .val (.int c0), .val (.int c1), .val (.int c2), .val (.int c3), .val (.ref b1), .val (.ref b3), .val (.ref b6), .val (.ref b10), .unset, .unset, .unset] [.ref b15]
    refine C.astore 123 #[.val (.int n), .val (.int a), .val (.int b), .val (.int c), .val (.int d), .val (.int (1 : Int32)), .val (.int c0), .val (.int c1), .val (.int c2), .val (.int c3), .val (.ref b1), .val (.ref b3), .val (.ref b6), .val (.ref b10), .val (.ref b15), .unset, .unset] at_121 rfl rfl rfl ?_
    refine C.goto 177 at_123 rfl ?_
    refine C.aload 179 at_177 rfl rfl rfl ?_
    refine C.callS 182 (as := [.ref b15]) (rest := []) (rm := ⟨2, 3, 22, 29⟩) 0 at_179 rfl (tw 31) (tw 32) (tw 33) (tw 34) (by decide) (exact l Z a0' hw hEL hSA _ b15 s15 dq SQ [c0] (by simp) (by simp) T15) (by simp) pd7 rfl rfl (Nat.le_of_eq rfl) (by decide) (by decide) (by decide) (by decide) rfl ?_
    rintro v h' ⟨id, rfl, T, XI, G0, G1⟩
    show W h' [b15, b10, b6, b3, b1] 10 48 182 #[.val (.int n), .val (.int a), .val (.int b), .val (.int c), .val (.int d), .val (.int (1 : Int32)), .val (.int c0), .val (.int c1), .val (.int c2), .val (.int c3), .val (.ref b1), .val (.ref b3), .val (.ref b6), .val (.ref b10), .val (.ref b15), .unset, .unset] [.ref id]
    refine C.astore 184 #[.val (.int n), .val (.int a), .val (.int b), .val (.int c), .val (.int d), .val (.int (1 : Int32)), .val (.int c0), .val (.int c1), .val (.int c2), .val (.int c3), .val (.ref b1), .val (.ref b3), .val (.ref b6), .val (.ref b10), .val (.ref b15), .val (.ref id), .unset] at_182 rfl rfl rfl ?_
    refine C.aload 186 at_184 rfl rfl rfl ?_
    refine C.callV 189 (as := []) (rest := []) (rm := ⟨0, 0, 0, 0⟩) 0 at_186 rfl (tw 60) (tw 61) (tw 63) nfSelf (tw 62) (tw 33) (tw 64) (by decide) XI (itx l Z a0' hw hEL hSA _ id b15 G0) (by simp) pd11 rfl rfl (Nat.le_of_eq rfl) (by decide) (by decide) (by decide) (by decide) rfl ?_
    refine same_intro ?_
    show W h' [b15, b10, b6, b3, b1] 10 48 189 #[.val (.int n), .val (.int a), .val (.int b), .val (.int c), .val (.int d), .val (.int (1 : Int32)), .val (.int c0), .val (.int c1), .val (.int c2), .val (.int c3), .val (.ref b1), .val (.ref b3), .val (.ref b6), .val (.ref b10), .val (.ref b15), .val (.ref id), .unset] [.ref b15]
    refine C.astore 191 #[.val (.int n), .val (.int a), .val (.int b), .val (.int c), .val (.int d), .val (.int (1 : Int32)), .val (.int c0), .val (.int c1), .val (.int c2), .val (.int c3), .val (.ref b1), .val (.ref b3), .val (.ref b6), .val (.ref b10), .val (.ref b15), .val (.ref id), .val (.ref b15)] at_189 rfl rfl rfl ?_
    refine C.aload 193 at_191 rfl rfl rfl ?_
    refine C.ifnullF 196 at_193 rfl ?_
    refine C.aload 198 at_196 rfl rfl rfl ?_
    refine C.callV 201 (as := []) (rest := []) (rm := ⟨1, 0, 0, 13⟩) 0 at_198 rfl (tw 65) (tw 66) (tw 68) nfSelf (tw 67) (tw 4) (tw 69) (by decide) T.1 (sle l Z a0' hw hEL hSA _ cpt SCP hcp SAD SHI SLO b15 s15 [c0] (by simp) T) (by simp) pd12 rfl rfl (Nat.le_of_eq rfl) (by decide) (by decide) (by decide) (by decide) rfl ?_
    refine same_intro ?_
    show W h' [b15, b10, b6, b3, b1] 10 48 201 #[.val (.int n), .val (.int a), .val (.int b), .val (.int c), .val (.int d), .val (.int (1 : Int32)), .val (.int c0), .val (.int c1), .val (.int c2), .val (.int c3), .val (.ref b1), .val (.ref b3), .val (.ref b6), .val (.ref b10), .val (.ref b15), .val (.ref id), .val (.ref b15)] [.int (Int32.ofNat 1)]
    refine C.iload 203 at_201 rfl rfl ?_
    refine C.icmpT 208 at_203 rfl (by decide) ?_
    refine C.aload 210 at_208 rfl rfl rfl ?_
    refine C.iconst 211 (0 : Int32) at_210 rfl rfl ?_
    refine C.callV 214 (as := [.int (0 : Int32)]) (rest := []) (rm := ⟨4, 0, 0, 53⟩) 0 at_211 rfl (tw 75) (tw 76) (tw 78) nfSelf (tw 77) (tw 4) (tw 79) (by decide) T.1 (sca l Z a0' hw hEL hSA _ cpt SCP hcp SAD SHI SLO sf hsf SSF b15 s15 [c0] 0 c0 (by simp) rfl hc0 T) (by simp) pd14 rfl rfl (Nat.le_of_eq rfl) (by decide) (by decide) (by decide) (by decide) rfl ?_
    refine same_intro ?_
    show W h' [b15, b10, b6, b3, b1] 10 48 214 #[.val (.int n), .val (.int a), .val (.int b), .val (.int c), .val (.int d), .val (.int (1 : Int32)), .val (.int c0), .val (.int c1), .val (.int c2), .val (.int c3), .val (.ref b1), .val (.ref b3), .val (.ref b6), .val (.ref b10), .val (.ref b15), .val (.ref id), .val (.ref b15)] [.int c0]
    refine C.iload 216 at_214 rfl rfl ?_
    refine C.icmpT 221 at_216 rfl (teq rfl).1 ?_
    refine C.iload 223 at_221 rfl rfl ?_
    refine C.iconst 224 (2 : Int32) at_223 rfl rfl ?_
    refine C.icmpT 240 at_224 rfl (by decide) ?_
    refine C.iload 242 at_240 rfl rfl ?_
    refine C.iconst 243 (3 : Int32) at_242 rfl rfl ?_
    refine C.icmpT 259 at_243 rfl (by decide) ?_
    refine C.iload 261 at_259 rfl rfl ?_
    refine C.iconst 262 (4 : Int32) at_261 rfl rfl ?_
    refine C.icmpT 278 at_262 rfl (by decide) ?_
    refine C.aload 280 at_278 rfl rfl rfl ?_
    refine C.aload 282 at_280 rfl rfl rfl ?_
    refine C.callV 285 (as := [.ref b15]) (rest := []) (rm := ⟨0, 0, 0, 0⟩) 0 at_282 rfl (tw 97) (tw 98) (tw 100) nfSelf (tw 99) (tw 4) (tw 101) (by decide) T.1 (sqq l Z a0' hw hEL hSA _ b15) (by simp) pd19 rfl rfl (Nat.le_of_eq rfl) (by decide) (by decide) (by decide) (by decide) rfl ?_
    refine same_intro ?_
    show W h' [b15, b10, b6, b3, b1] 10 48 285 #[.val (.int n), .val (.int a), .val (.int b), .val (.int c), .val (.int d), .val (.int (1 : Int32)), .val (.int c0), .val (.int c1), .val (.int c2), .val (.int c3), .val (.ref b1), .val (.ref b3), .val (.ref b6), .val (.ref b10), .val (.ref b15), .val (.ref id), .val (.ref b15)] [.int (1 : Int32)]
    refine C.ifF 288 at_285 rfl (by decide) ?_
    refine C.aload 290 at_288 rfl rfl rfl ?_
    refine C.callV 293 (as := []) (rest := []) (rm := ⟨0, 0, 0, 0⟩) 0 at_290 rfl (tw 102) (tw 103) (tw 105) nfSelf (tw 104) (tw 33) (tw 106) (by decide) XI (iqu l Z a0' hw hEL hSA _ id dq G1) (by simp) pd20 rfl rfl (Nat.le_of_eq rfl) (by decide) (by decide) (by decide) (by decide) rfl ?_
    refine same_intro ?_
    show W h' [b15, b10, b6, b3, b1] 10 48 293 #[.val (.int n), .val (.int a), .val (.int b), .val (.int c), .val (.int d), .val (.int (1 : Int32)), .val (.int c0), .val (.int c1), .val (.int c2), .val (.int c3), .val (.ref b1), .val (.ref b3), .val (.ref b6), .val (.ref b10), .val (.ref b15), .val (.ref id), .val (.ref b15)] [.ref dq]
    refine C.getstatic 296 at_293 rfl (tw 107) SQ ?_
    refine C.acmpF 299 at_296 rfl rfl rfl (by simp [XT.acmp]) ?_
    refine C.iconst 300 (1 : Int32) at_299 rfl rfl ?_
    refine C.goto 304 at_300 rfl ?_
    exact C.retI .boolean at_304 rfl (by simp) rfl (by decide) (by decide) rfl (fun _ q => nomatch q)
  | 1, _ =>
    show W h14 [b10, b6, b3, b1] 4 10 109 #[.val (.int n), .val (.int a), .val (.int b), .val (.int c), .val (.int d), .val (.int (2 : Int32)), .val (.int c0), .val (.int c1), .val (.int c2), .val (.int c3), .val (.ref b1), .val (.ref b3), .val (.ref b6), .val (.ref b10), .unset, .unset, .unset] [.int (1 : Int32), .int (2 : Int32)]
    refine C.icmpT 126 at_109 rfl (by decide) ?_
    refine C.iload 128 at_126 rfl rfl ?_
    refine C.iconst 129 (2 : Int32) at_128 rfl rfl ?_
    refine C.icmpF 132 at_129 rfl (by decide) ?_
    have hch : ∀ z ∈ ([c0, c1] : List Int32), Ch z := (fun z hz => by simp only [List.mem_cons, List.not_mem_nil, or_false] at hz; rcases hz with rfl | rfl <;> assumption)
    refine C.new 135 at_132 rfl (tw 2) (tw 3) (tw 4) (by decide) (by decide) ?_
    intro h15 E15 X15 D15
    obtain ⟨b15, g15⟩ : ∃ z, z = h14.size := ⟨_, rfl⟩
    rw [← g15] at X15 ⊢
    rw [← g15] at D15
    have z15 : Z.heap.size ≤ h15.size := Nat.le_trans z14 E15.1
    have zb15 : Z.heap.size ≤ b15 := by rw [g15]; exact z14
    show W h15 [b15, b10, b6, b3, b1] 5 14 135 #[.val (.int n), .val (.int a), .val (.int b), .val (.int c), .val (.int d), .val (.int (2 : Int32)), .val (.int c0), .val (.int c1), .val (.int c2), .val (.int c3), .val (.ref b1), .val (.ref b3), .val (.ref b6), .val (.ref b10), .unset, .unset, .unset] [.ref b15]
    have NV15 : Fld Z h15 b15 "java/lang/String" "value" "[B" .null := D15 (Or.inr (hw _ (tw 30))) (ty := (.array .byte)) (by decide)
    have NC15 : Fld Z h15 b15 "java/lang/String" "coder" "B" (.int (0 : Int32)) := D15 (Or.inr (hw _ (tw 28))) (ty := .byte) (by decide)
    have AC15 : Al Z h15 b3 .char (iv' [c0, c1]) := Ab3_14.ext E15
    refine C.dup 136 at_135 rfl rfl ?_
    refine C.aload 138 at_136 rfl rfl rfl ?_
    refine C.callI 141 (a := b15) (as := [.ref b3]) (rest := [.ref b15]) (rm := ⟨5, 2, 12, 94⟩) 1 at_138 rfl rfl rfl (tw 5) (tw 6) (tw 4) (tw 7) (by decide) (si1 l Z a0' hw hEL hSA h15 b15 b3 cpt SCP hcp SAD SHI SLO [c0, c1] (by simp) (by simp) hch  X15 NV15 NC15 AC15) (by simp) pd1 rfl rfl (Nat.le_of_eq rfl) (by decide) (by decide) (by decide) (by decide) rfl ?_
    rintro v h16 ⟨s15, rfl, sn15, K16, T15⟩
    have z16 : Z.heap.size ≤ h16.size := Nat.le_trans z15 K16.1
    show W h16 [b15, b10, b6, b3, b1] 7 26 141 #[.val (.int n), .val (.int a), .val (.int b), .val (.int c), .val (.int d), .val (.int (2 : Int32)), .val (.int c0), .val (.int c1), .val (.int c2), .val (.int c3), .val (.ref b1), .val (.ref b3), .val (.ref b6), .val (.ref b10), .unset, .unset, .unset] [.ref b15]
    refine C.astore 143 #[.val (.int n), .val (.int a), .val (.int b), .val (.int c), .val (.int d), .val (.int (2 : Int32)), .val (.int c0), .val (.int c1), .val (.int c2), .val (.int c3), .val (.ref b1), .val (.ref b3), .val (.ref b6), .val (.ref b10), .val (.ref b15), .unset, .unset] at_141 rfl rfl rfl ?_
    refine C.goto 177 at_143 rfl ?_
    refine C.aload 179 at_177 rfl rfl rfl ?_
    refine C.callS 182 (as := [.ref b15]) (rest := []) (rm := ⟨2, 3, 22, 29⟩) 0 at_179 rfl (tw 31) (tw 32) (tw 33) (tw 34) (by decide) (exact l Z a0' hw hEL hSA _ b15 s15 dq SQ [c0, c1] (by simp) (by simp) T15) (by simp) pd7 rfl rfl (Nat.le_of_eq rfl) (by decide) (by decide) (by decide) (by decide) rfl ?_
    rintro v h' ⟨id, rfl, T, XI, G0, G1⟩
    show W h' [b15, b10, b6, b3, b1] 10 48 182 #[.val (.int n), .val (.int a), .val (.int b), .val (.int c), .val (.int d), .val (.int (2 : Int32)), .val (.int c0), .val (.int c1), .val (.int c2), .val (.int c3), .val (.ref b1), .val (.ref b3), .val (.ref b6), .val (.ref b10), .val (.ref b15), .unset, .unset] [.ref id]
    refine C.astore 184 #[.val (.int n), .val (.int a), .val (.int b), .val (.int c), .val (.int d), .val (.int (2 : Int32)), .val (.int c0), .val (.int c1), .val (.int c2), .val (.int c3), .val (.ref b1), .val (.ref b3), .val (.ref b6), .val (.ref b10), .val (.ref b15), .val (.ref id), .unset] at_182 rfl rfl rfl ?_
    refine C.aload 186 at_184 rfl rfl rfl ?_
    refine C.callV 189 (as := []) (rest := []) (rm := ⟨0, 0, 0, 0⟩) 0 at_186 rfl (tw 60) (tw 61) (tw 63) nfSelf (tw 62) (tw 33) (tw 64) (by decide) XI (itx l Z a0' hw hEL hSA _ id b15 G0) (by simp) pd11 rfl rfl (Nat.le_of_eq rfl) (by decide) (by decide) (by decide) (by decide) rfl ?_
    refine same_intro ?_
    show W h' [b15, b10, b6, b3, b1] 10 48 189 #[.val (.int n), .val (.int a), .val (.int b), .val (.int c), .val (.int d), .val (.int (2 : Int32)), .val (.int c0), .val (.int c1), .val (.int c2), .val (.int c3), .val (.ref b1), .val (.ref b3), .val (.ref b6), .val (.ref b10), .val (.ref b15), .val (.ref id), .unset] [.ref b15]
    refine C.astore 191 #[.val (.int n), .val (.int a), .val (.int b), .val (.int c), .val (.int d), .val (.int (2 : Int32)), .val (.int c0), .val (.int c1), .val (.int c2), .val (.int c3), .val (.ref b1), .val (.ref b3), .val (.ref b6), .val (.ref b10), .val (.ref b15), .val (.ref id), .val (.ref b15)] at_189 rfl rfl rfl ?_
    refine C.aload 193 at_191 rfl rfl rfl ?_
    refine C.ifnullF 196 at_193 rfl ?_
    refine C.aload 198 at_196 rfl rfl rfl ?_
    refine C.callV 201 (as := []) (rest := []) (rm := ⟨1, 0, 0, 13⟩) 0 at_198 rfl (tw 65) (tw 66) (tw 68) nfSelf (tw 67) (tw 4) (tw 69) (by decide) T.1 (sle l Z a0' hw hEL hSA _ cpt SCP hcp SAD SHI SLO b15 s15 [c0, c1] (by simp) T) (by simp) pd12 rfl rfl (Nat.le_of_eq rfl) (by decide) (by decide) (by decide) (by decide) rfl ?_
    refine same_intro ?_
    show W h' [b15, b10, b6, b3, b1] 10 48 201 #[.val (.int n), .val (.int a), .val (.int b), .val (.int c), .val (.int d), .val (.int (2 : Int32)), .val (.int c0), .val (.int c1), .val (.int c2), .val (.int c3), .val (.ref b1), .val (.ref b3), .val (.ref b6), .val (.ref b10), .val (.ref b15), .val (.ref id), .val (.ref b15)] [.int (Int32.ofNat 2)]
    refine C.iload 203 at_201 rfl rfl ?_
    refine C.icmpT 208 at_203 rfl (by decide) ?_
    refine C.aload 210 at_208 rfl rfl rfl ?_
    refine C.iconst 211 (0 : Int32) at_210 rfl rfl ?_
    refine C.callV 214 (as := [.int (0 : Int32)]) (rest := []) (rm := ⟨4, 0, 0, 53⟩) 0 at_211 rfl (tw 75) (tw 76) (tw 78) nfSelf (tw 77) (tw 4) (tw 79) (by decide) T.1 (sca l Z a0' hw hEL hSA _ cpt SCP hcp SAD SHI SLO sf hsf SSF b15 s15 [c0, c1] 0 c0 (by simp) rfl hc0 T) (by simp) pd14 rfl rfl (Nat.le_of_eq rfl) (by decide) (by decide) (by decide) (by decide) rfl ?_
    refine same_intro ?_
    show W h' [b15, b10, b6, b3, b1] 10 48 214 #[.val (.int n), .val (.int a), .val (.int b), .val (.int c), .val (.int d), .val (.int (2 : Int32)), .val (.int c0), .val (.int c1), .val (.int c2), .val (.int c3), .val (.ref b1), .val (.ref b3), .val (.ref b6), .val (.ref b10), .val (.ref b15), .val (.ref id), .val (.ref b15)] [.int c0]
    refine C.iload 216 at_214 rfl rfl ?_
    refine C.icmpT 221 at_216 rfl (teq rfl).1 ?_
    refine C.iload 223 at_221 rfl rfl ?_
    refine C.iconst 224 (2 : Int32) at_223 rfl rfl ?_
    refine C.icmpF 227 at_224 rfl (by decide) ?_
    refine C.aload 229 at_227 rfl rfl rfl ?_
    refine C.iconst 230 (1 : Int32) at_229 rfl rfl ?_
    refine C.callV 233 (as := [.int (1 : Int32)]) (rest := []) (rm := ⟨4, 0, 0, 53⟩) 0 at_230 rfl (tw 75) (tw 76) (tw 78) nfSelf (tw 77) (tw 4) (tw 79) (by decide) T.1 (sca l Z a0' hw hEL hSA _ cpt SCP hcp SAD SHI SLO sf hsf SSF b15 s15 [c0, c1] 1 c1 (by simp) rfl hc1 T) (by simp) pd14 rfl rfl (Nat.le_of_eq rfl) (by decide) (by decide) (by decide) (by decide) rfl ?_
    refine same_intro ?_
    show W h' [b15, b10, b6, b3, b1] 10 48 233 #[.val (.int n), .val (.int a), .val (.int b), .val (.int c), .val (.int d), .val (.int (2 : Int32)), .val (.int c0), .val (.int c1), .val (.int c2), .val (.int c3), .val (.ref b1), .val (.ref b3), .val (.ref b6), .val (.ref b10), .val (.ref b15), .val (.ref id), .val (.ref b15)] [.int c1]
    refine C.iload 235 at_233 rfl rfl ?_
    refine C.icmpT 240 at_235 rfl (teq rfl).1 ?_
    refine C.iload 242 at_240 rfl rfl ?_
    refine C.iconst 243 (3 : Int32) at_242 rfl rfl ?_
    refine C.icmpT 259 at_243 rfl (by decide) ?_
    refine C.iload 261 at_259 rfl rfl ?_
    refine C.iconst 262 (4 : Int32) at_261 rfl rfl ?_
    refine C.icmpT 278 at_262 rfl (by decide) ?_
    refine C.aload 280 at_278 rfl rfl rfl ?_
    refine C.aload 282 at_280 rfl rfl rfl ?_
    refine C.callV 285 (as := [.ref b15]) (rest := []) (rm := ⟨0, 0, 0, 0⟩) 0 at_282 rfl (tw 97) (tw 98) (tw 100) nfSelf (tw 99) (tw 4) (tw 101) (by decide) T.1 (sqq l Z a0' hw hEL hSA _ b15) (by simp) pd19 rfl rfl (Nat.le_of_eq rfl) (by decide) (by decide) (by decide) (by decide) rfl ?_
    refine same_intro ?_
    show W h' [b15, b10, b6, b3, b1] 10 48 285 #[.val (.int n), .val (.int a), .val (.int b), .val (.int c), .val (.int d), .val (.int (2 : Int32)), .val (.int c0), .val (.int c1), .val (.int c2), .val (.int c3), .val (.ref b1), .val (.ref b3), .val (.ref b6), .val (.ref b10), .val (.ref b15), .val (.ref id), .val (.ref b15)] [.int (1 : Int32)]
    refine C.ifF 288 at_285 rfl (by decide) ?_
    refine C.aload 290 at_288 rfl rfl rfl ?_
    refine C.callV 293 (as := []) (rest := []) (rm := ⟨0, 0, 0, 0⟩) 0 at_290 rfl (tw 102) (tw 103) (tw 105) nfSelf (tw 104) (tw 33) (tw 106) (by decide) XI (iqu l Z a0' hw hEL hSA _ id dq G1) (by simp) pd20 rfl rfl (Nat.le_of_eq rfl) (by decide) (by decide) (by decide) (by decide) rfl ?_
    refine same_intro ?_
    show W h' [b15, b10, b6, b3, b1] 10 48 293 #[.val (.int n), .val (.int a), .val (.int b), .val (.int c), .val (.int d), .val (.int (2 : Int32)), .val (.int c0), .val (.int c1), .val (.int c2), .val (.int c3), .val (.ref b1), .val (.ref b3), .val (.ref b6), .val (.ref b10), .val (.ref b15), .val (.ref id), .val (.ref b15)] [.ref dq]
    refine C.getstatic 296 at_293 rfl (tw 107) SQ ?_
    refine C.acmpF 299 at_296 rfl rfl rfl (by simp [XT.acmp]) ?_
    refine C.iconst 300 (1 : Int32) at_299 rfl rfl ?_
    refine C.goto 304 at_300 rfl ?_
    exact C.retI .boolean at_304 rfl (by simp) rfl (by decide) (by decide) rfl (fun _ q => nomatch q)
  | 2, _ =>
    show W h14 [b10, b6, b3, b1] 4 10 109 #[.val (.int n), .val (.int a), .val (.int b), .val (.int c), .val (.int d), .val (.int (3 : Int32)), .val (.int c0), .val (.int c1), .val (.int c2), .val (.int c3), .val (.ref b1), .val (.ref b3), .val (.ref b6), .val (.ref b10), .unset, .unset, .unset] [.int (1 : Int32), .int (3 : Int32)]
    refine C.icmpT 126 at_109 rfl (by decide) ?_
    refine C.iload 128 at_126 rfl rfl ?_
    refine C.iconst 129 (2 : Int32) at_128 rfl rfl ?_
    refine C.icmpT 146 at_129 rfl (by decide) ?_
    refine C.iload 148 at_146 rfl rfl ?_
    refine C.iconst 149 (3 : Int32) at_148 rfl rfl ?_
    refine C.icmpF 152 at_149 rfl (by decide) ?_
    have hch : ∀ z ∈ ([c0, c1, c2] : List Int32), Ch z := (fun z hz => by simp only [List.mem_cons, List.not_mem_nil, or_false] at hz; rcases hz with rfl | rfl | rfl <;> assumption)
    refine C.new 155 at_152 rfl (tw 2) (tw 3) (tw 4) (by decide) (by decide) ?_
    intro h15 E15 X15 D15
    obtain ⟨b15, g15⟩ : ∃ z, z = h14.size := ⟨_, rfl⟩
    rw [← g15] at X15 ⊢
    rw [← g15] at D15
    have z15 : Z.heap.size ≤ h15.size := Nat.le_trans z14 E15.1
    have zb15 : Z.heap.size ≤ b15 := by rw [g15]; exact z14
    show W h15 [b15, b10, b6, b3, b1] 5 14 155 #[.val (.int n), .val (.int a), .val (.int b), .val (.int c), .val (.int d), .val (.int (3 : Int32)), .val (.int c0), .val (.int c1), .val (.int c2), .val (.int c3), .val (.ref b1), .val (.ref b3), .val (.ref b6), .val (.ref b10), .unset, .unset, .unset] [.ref b15]
    have NV15 : Fld Z h15 b15 "java/lang/String" "value" "[B" .null := D15 (Or.inr (hw _ (tw 30))) (ty := (.array .byte)) (by decide)
    have NC15 : Fld Z h15 b15 "java/lang/String" "coder" "B" (.int (0 : Int32)) := D15 (Or.inr (hw _ (tw 28))) (ty := .byte) (by decide)
    have AC15 : Al Z h15 b6 .char (iv' [c0, c1, c2]) := Ab6_14.ext E15
    refine C.dup 156 at_155 rfl rfl ?_
    refine C.aload 158 at_156 rfl rfl rfl ?_
    refine C.callI 161 (a := b15) (as := [.ref b6]) (rest := [.ref b15]) (rm := ⟨5, 2, 12, 94⟩) 1 at_158 rfl rfl rfl (tw 5) (tw 6) (tw 4) (tw 7) (by decide) (si1 l Z a0' hw hEL hSA h15 b15 b6 cpt SCP hcp SAD SHI SLO [c0, c1, c2] (by simp) (by simp) hch  X15 NV15 NC15 AC15) (by simp) pd1 rfl rfl (Nat.le_of_eq rfl) (by decide) (by decide) (by decide) (by decide) rfl ?_
    rintro v h16 ⟨s15, rfl, sn15, K16, T15⟩
    have z16 : Z.heap.size ≤ h16.size := Nat.le_trans z15 K16.1
    show W h16 [b15, b10, b6, b3, b1] 7 26 161 #[.val (.int n), .val (.int a), .val (.int b), .val (.int c), .val (.int d), .val (.int (3 : Int32)), .val (.int c0), .val (.int c1), .val (.int c2), .val (.int c3), .val (.ref b1), .val (.ref b3), .val (.ref b6), .val (.ref b10), .unset, .unset, .unset] [.ref b15]
    refine C.astore 163 #[.val (.int n), .val (.int a), .val (.int b), .val (.int c), .val (.int d), .val (.int (3 : Int32)), .val (.int c0), .val (.int c1), .val (.int c2), .val (.int c3), .val (.ref b1), .val (.ref b3), .val (.ref b6), .val (.ref b10), .val (.ref b15), .unset, .unset] at_161 rfl rfl rfl ?_
    refine C.goto 177 at_163 rfl ?_
    refine C.aload 179 at_177 rfl rfl rfl ?_
    refine C.callS 182 (as := [.ref b15]) (rest := []) (rm := ⟨2, 3, 22, 29⟩) 0 at_179 rfl (tw 31) (tw 32) (tw 33) (tw 34) (by decide) (exact l Z a0' hw hEL hSA _ b15 s15 dq SQ [c0, c1, c2] (by simp) (by simp) T15) (by simp) pd7 rfl rfl (Nat.le_of_eq rfl) (by decide) (by decide) (by decide) (by decide) rfl ?_
    rintro v h' ⟨id, rfl, T, XI, G0, G1⟩
    show W h' [b15, b10, b6, b3, b1] 10 48 182 #[.val (.int n), .val (.int a), .val (.int b), .val (.int c), .val (.int d), .val (.int (3 : Int32)), .val (.int c0), .val (.int c1), .val (.int c2), .val (.int c3), .val (.ref b1), .val (.ref b3), .val (.ref b6), .val (.ref b10), .val (.ref b15), .unset, .unset] [.ref id]
    refine C.astore 184 #[.val (.int n), .val (.int a), .val (.int b), .val (.int c), .val (.int d), .val (.int (3 : Int32)), .val (.int c0), .val (.int c1), .val (.int c2), .val (.int c3), .val (.ref b1), .val (.ref b3), .val (.ref b6), .val (.ref b10), .val (.ref b15), .val (.ref id), .unset] at_182 rfl rfl rfl ?_
    refine C.aload 186 at_184 rfl rfl rfl ?_
    refine C.callV 189 (as := []) (rest := []) (rm := ⟨0, 0, 0, 0⟩) 0 at_186 rfl (tw 60) (tw 61) (tw 63) nfSelf (tw 62) (tw 33) (tw 64) (by decide) XI (itx l Z a0' hw hEL hSA _ id b15 G0) (by simp) pd11 rfl rfl (Nat.le_of_eq rfl) (by decide) (by decide) (by decide) (by decide) rfl ?_
    refine same_intro ?_
    show W h' [b15, b10, b6, b3, b1] 10 48 189 #[.val (.int n), .val (.int a), .val (.int b), .val (.int c), .val (.int d), .val (.int (3 : Int32)), .val (.int c0), .val (.int c1), .val (.int c2), .val (.int c3), .val (.ref b1), .val (.ref b3), .val (.ref b6), .val (.ref b10), .val (.ref b15), .val (.ref id), .unset] [.ref b15]
    refine C.astore 191 #[.val (.int n), .val (.int a), .val (.int b), .val (.int c), .val (.int d), .val (.int (3 : Int32)), .val (.int c0), .val (.int c1), .val (.int c2), .val (.int c3), .val (.ref b1), .val (.ref b3), .val (.ref b6), .val (.ref b10), .val (.ref b15), .val (.ref id), .val (.ref b15)] at_189 rfl rfl rfl ?_
    refine C.aload 193 at_191 rfl rfl rfl ?_
    refine C.ifnullF 196 at_193 rfl ?_
    refine C.aload 198 at_196 rfl rfl rfl ?_
    refine C.callV 201 (as := []) (rest := []) (rm := ⟨1, 0, 0, 13⟩) 0 at_198 rfl (tw 65) (tw 66) (tw 68) nfSelf (tw 67) (tw 4) (tw 69) (by decide) T.1 (sle l Z a0' hw hEL hSA _ cpt SCP hcp SAD SHI SLO b15 s15 [c0, c1, c2] (by simp) T) (by simp) pd12 rfl rfl (Nat.le_of_eq rfl) (by decide) (by decide) (by decide) (by decide) rfl ?_
    refine same_intro ?_
    show W h' [b15, b10, b6, b3, b1] 10 48 201 #[.val (.int n), .val (.int a), .val (.int b), .val (.int c), .val (.int d), .val (.int (3 : Int32)), .val (.int c0), .val (.int c1), .val (.int c2), .val (.int c3), .val (.ref b1), .val (.ref b3), .val (.ref b6), .val (.ref b10), .val (.ref b15), .val (.ref id), .val (.ref b15)] [.int (Int32.ofNat 3)]
    refine C.iload 203 at_201 rfl rfl ?_
    refine C.icmpT 208 at_203 rfl (by decide) ?_
    refine C.aload 210 at_208 rfl rfl rfl ?_
    refine C.iconst 211 (0 : Int32) at_210 rfl rfl ?_
    refine C.callV 214 (as := [.int (0 : Int32)]) (rest := []) (rm := ⟨4, 0, 0, 53⟩) 0 at_211 rfl (tw 75) (tw 76) (tw 78) nfSelf (tw 77) (tw 4) (tw 79) (by decide) T.1 (sca l Z a0' hw hEL hSA _ cpt SCP hcp SAD SHI SLO sf hsf SSF b15 s15 [c0, c1, c2] 0 c0 (by simp) rfl hc0 T) (by simp) pd14 rfl rfl (Nat.le_of_eq rfl) (by decide) (by decide) (by decide) (by decide) rfl ?_
    refine same_intro ?_
    show W h' [b15, b10, b6, b3, b1] 10 48 214 #[.val (.int n), .val (.int a), .val (.int b), .val (.int c), .val (.int d), .val (.int (3 : Int32)), .val (.int c0), .val (.int c1), .val (.int c2), .val (.int c3), .val (.ref b1), .val (.ref b3), .val (.ref b6), .val (.ref b10), .val (.ref b15), .val (.ref id), .val (.ref b15)] [.int c0]
    refine C.iload 216 at_214 rfl rfl ?_
    refine C.icmpT 221 at_216 rfl (teq rfl).1 ?_
    refine C.iload 223 at_221 rfl rfl ?_
    refine C.iconst 224 (2 : Int32) at_223 rfl rfl ?_
    refine C.icmpF 227 at_224 rfl (by decide) ?_
    refine C.aload 229 at_227 rfl rfl rfl ?_
    refine C.iconst 230 (1 : Int32) at_229 rfl rfl ?_
    refine C.callV 233 (as := [.int (1 : Int32)]) (rest := []) (rm := ⟨4, 0, 0, 53⟩) 0 at_230 rfl (tw 75) (tw 76) (tw 78) nfSelf (tw 77) (tw 4) (tw 79) (by decide) T.1 (sca l Z a0' hw hEL hSA _ cpt SCP hcp SAD SHI SLO sf hsf SSF b15 s15 [c0, c1, c2] 1 c1 (by simp) rfl hc1 T) (by simp) pd14 rfl rfl (Nat.le_of_eq rfl) (by decide) (by decide) (by decide) (by decide) rfl ?_
    refine same_intro ?_
    show W h' [b15, b10, b6, b3, b1] 10 48 233 #[.val (.int n), .val (.int a), .val (.int b), .val (.int c), .val (.int d), .val (.int (3 : Int32)), .val (.int c0), .val (.int c1), .val (.int c2), .val (.int c3), .val (.ref b1), .val (.ref b3), .val (.ref b6), .val (.ref b10), .val (.ref b15), .val (.ref id), .val (.ref b15)] [.int c1]
    refine C.iload 235 at_233 rfl rfl ?_
    refine C.icmpT 240 at_235 rfl (teq rfl).1 ?_
    refine C.iload 242 at_240 rfl rfl ?_
    refine C.iconst 243 (3 : Int32) at_242 rfl rfl ?_
    refine C.icmpF 246 at_243 rfl (by decide) ?_
    refine C.aload 248 at_246 rfl rfl rfl ?_
    refine C.iconst 249 (2 : Int32) at_248 rfl rfl ?_
    refine C.callV 252 (as := [.int (2 : Int32)]) (rest := []) (rm := ⟨4, 0, 0, 53⟩) 0 at_249 rfl (tw 75) (tw 76) (tw 78) nfSelf (tw 77) (tw 4) (tw 79) (by decide) T.1 (sca l Z a0' hw hEL hSA _ cpt SCP hcp SAD SHI SLO sf hsf SSF b15 s15 [c0, c1, c2] 2 c2 (by simp) rfl hc2 T) (by simp) pd14 rfl rfl (Nat.le_of_eq rfl) (by decide) (by decide) (by decide) (by decide) rfl ?_
    refine same_intro ?_
    show W h' [b15, b10, b6, b3, b1] 10 48 252 #[.val (.int n), .val (.int a), .val (.int b), .val (.int c), .val (.int d), .val (.int (3 : Int32)), .val (.int c0), .val (.int c1), .val (.int c2), .val (.int c3), .val (.ref b1), .val (.ref b3), .val (.ref b6), .val (.ref b10), .val (.ref b15), .val (.ref id), .val (.ref b15)] [.int c2]
    refine C.iload 254 at_252 rfl rfl ?_
    refine C.icmpT 259 at_254 rfl (teq rfl).1 ?_
    refine C.iload 261 at_259 rfl rfl ?_
    refine C.iconst 262 (4 : Int32) at_261 rfl rfl ?_
    refine C.icmpT 278 at_262 rfl (by decide) ?_
    refine C.aload 280 at_278 rfl rfl rfl ?_
    refine C.aload 282 at_280 rfl rfl rfl ?_
    refine C.callV 285 (as := [.ref b15]) (rest := []) (rm := ⟨0, 0, 0, 0⟩) 0 at_282 rfl (tw 97) (tw 98) (tw 100) nfSelf (tw 99) (tw 4) (tw 101) (by decide) T.1 (sqq l Z a0' hw hEL hSA _ b15) (by simp) pd19 rfl rfl (Nat.le_of_eq rfl) (by decide) (by decide) (by decide) (by decide) rfl ?_
    refine same_intro ?_
    show W h' [b15, b10, b6, b3, b1] 10 48 285 #[.val (.int n), .val (.int a), .val (.int b), .val (.int c), .val (.int d), .val (.int (3 : Int32)), .val (.int c0), .val (.int c1), .val (.int c2), .val (.int c3), .val (.ref b1), .val (.ref b3), .val (.ref b6), .val (.ref b10), .val (.ref b15), .val (.ref id), .val (.ref b15)] [.int (1 : Int32)]
    refine C.ifF 288 at_285 rfl (by decide) ?_
    refine C.aload 290 at_288 rfl rfl rfl ?_
    refine C.callV 293 (as := []) (rest := []) (rm := ⟨0, 0, 0, 0⟩) 0 at_290 rfl (tw 102) (tw 103) (tw 105) nfSelf (tw 104) (tw 33) (tw 106) (by decide) XI (iqu l Z a0' hw hEL hSA _ id dq G1) (by simp) pd20 rfl rfl (Nat.le_of_eq rfl) (by decide) (by decide) (by decide) (by decide) rfl ?_
    refine same_intro ?_
    show W h' [b15, b10, b6, b3, b1] 10 48 293 #[.val (.int n), .val (.int a), .val (.int b), .val (.int c), .val (.int d), .val (.int (3 : Int32)), .val (.int c0), .val (.int c1), .val (.int c2), .val (.int c3), .val (.ref b1), .val (.ref b3), .val (.ref b6), .val (.ref b10), .val (.ref b15), .val (.ref id), .val (.ref b15)] [.ref dq]
    refine C.getstatic 296 at_293 rfl (tw 107) SQ ?_
    refine C.acmpF 299 at_296 rfl rfl rfl (by simp [XT.acmp]) ?_
    refine C.iconst 300 (1 : Int32) at_299 rfl rfl ?_
    refine C.goto 304 at_300 rfl ?_
    exact C.retI .boolean at_304 rfl (by simp) rfl (by decide) (by decide) rfl (fun _ q => nomatch q)
  | 3, _ =>
    show W h14 [b10, b6, b3, b1] 4 10 109 #[.val (.int n), .val (.int a), .val (.int b), .val (.int c), .val (.int d), .val (.int (4 : Int32)), .val (.int c0), .val (.int c1), .val (.int c2), .val (.int c3), .val (.ref b1), .val (.ref b3), .val (.ref b6), .val (.ref b10), .unset, .unset, .unset] [.int (1 : Int32), .int (4 : Int32)]
    refine C.icmpT 126 at_109 rfl (by decide) ?_
    refine C.iload 128 at_126 rfl rfl ?_
    refine C.iconst 129 (2 : Int32) at_128 rfl rfl ?_
    refine C.icmpT 146 at_129 rfl (by decide) ?_
    refine C.iload 148 at_146 rfl rfl ?_
    refine C.iconst 149 (3 : Int32) at_148 rfl rfl ?_
    refine C.icmpT 166 at_149 rfl (by decide) ?_
    have hch : ∀ z ∈ ([c0, c1, c2, c3] : List Int32), Ch z := (fun z hz => by simp only [List.mem_cons, List.not_mem_nil, or_false] at hz; rcases hz with rfl | rfl | rfl | rfl <;> assumption)
    refine C.new 169 at_166 rfl (tw 2) (tw 3) (tw 4) (by decide) (by decide) ?_
    intro h15 E15 X15 D15
    obtain ⟨b15, g15⟩ : ∃ z, z = h14.size := ⟨_, rfl⟩
    rw [← g15] at X15 ⊢
    rw [← g15] at D15
    have z15 : Z.heap.size ≤ h15.size := Nat.le_trans z14 E15.1
    have zb15 : Z.heap.size ≤ b15 := by rw [g15]; exact z14
    show W h15 [b15, b10, b6, b3, b1] 5 14 169 #[.val (.int n), .val (.int a), .val (.int b), .val (.int c), .val (.int d), .val (.int (4 : Int32)), .val (.int c0), .val (.int c1), .val (.int c2), .val (.int c3), .val (.ref b1), .val (.ref b3), .val (.ref b6), .val (.ref b10), .unset, .unset, .unset] [.ref b15]
    have NV15 : Fld Z h15 b15 "java/lang/String" "value" "[B" .null := D15 (Or.inr (hw _ (tw 30))) (ty := (.array .byte)) (by decide)
    have NC15 : Fld Z h15 b15 "java/lang/String" "coder" "B" (.int (0 : Int32)) := D15 (Or.inr (hw _ (tw 28))) (ty := .byte) (by decide)
    have AC15 : Al Z h15 b10 .char (iv' [c0, c1, c2, c3]) := Ab10_14.ext E15
    refine C.dup 170 at_169 rfl rfl ?_
    refine C.aload 172 at_170 rfl rfl rfl ?_
    refine C.callI 175 (a := b15) (as := [.ref b10]) (rest := [.ref b15]) (rm := ⟨5, 2, 12, 94⟩) 1 at_172 rfl rfl rfl (tw 5) (tw 6) (tw 4) (tw 7) (by decide) (si1 l Z a0' hw hEL hSA h15 b15 b10 cpt SCP hcp SAD SHI SLO [c0, c1, c2, c3] (by simp) (by simp) hch  X15 NV15 NC15 AC15) (by simp) pd1 rfl rfl (Nat.le_of_eq rfl) (by decide) (by decide) (by decide) (by decide) rfl ?_
    rintro v h16 ⟨s15, rfl, sn15, K16, T15⟩
    have z16 : Z.heap.size ≤ h16.size := Nat.le_trans z15 K16.1
    show W h16 [b15, b10, b6, b3, b1] 7 26 175 #[.val (.int n), .val (.int a), .val (.int b), .val (.int c), .val (.int d), .val (.int (4 : Int32)), .val (.int c0), .val (.int c1), .val (.int c2), .val (.int c3), .val (.ref b1), .val (.ref b3), .val (.ref b6), .val (.ref b10), .unset, .unset, .unset] [.ref b15]
    refine C.astore 177 #[.val (.int n), .val (.int a), .val (.int b), .val (.int c), .val (.int d), .val (.int (4 : Int32)), .val (.int c0), .val (.int c1), .val (.int c2), .val (.int c3), .val (.ref b1), .val (.ref b3), .val (.ref b6), .val (.ref b10), .val (.ref b15), .unset, .unset] at_175 rfl rfl rfl ?_
    refine C.aload 179 at_177 rfl rfl rfl ?_
    refine C.callS 182 (as := [.ref b15]) (rest := []) (rm := ⟨2, 3, 22, 29⟩) 0 at_179 rfl (tw 31) (tw 32) (tw 33) (tw 34) (by decide) (exact l Z a0' hw hEL hSA _ b15 s15 dq SQ [c0, c1, c2, c3] (by simp) (by simp) T15) (by simp) pd7 rfl rfl (Nat.le_of_eq rfl) (by decide) (by decide) (by decide) (by decide) rfl ?_
    rintro v h' ⟨id, rfl, T, XI, G0, G1⟩
    show W h' [b15, b10, b6, b3, b1] 10 48 182 #[.val (.int n), .val (.int a), .val (.int b), .val (.int c), .val (.int d), .val (.int (4 : Int32)), .val (.int c0), .val (.int c1), .val (.int c2), .val (.int c3), .val (.ref b1), .val (.ref b3), .val (.ref b6), .val (.ref b10), .val (.ref b15), .unset, .unset] [.ref id]
    refine C.astore 184 #[.val (.int n), .val (.int a), .val (.int b), .val (.int c), .val (.int d), .val (.int (4 : Int32)), .val (.int c0), .val (.int c1), .val (.int c2), .val (.int c3), .val (.ref b1), .val (.ref b3), .val (.ref b6), .val (.ref b10), .val (.ref b15), .val (.ref id), .unset] at_182 rfl rfl rfl ?_
    refine C.aload 186 at_184 rfl rfl rfl ?_
    refine C.callV 189 (as := []) (rest := []) (rm := ⟨0, 0, 0, 0⟩) 0 at_186 rfl (tw 60) (tw 61) (tw 63) nfSelf (tw 62) (tw 33) (tw 64) (by decide) XI (itx l Z a0' hw hEL hSA _ id b15 G0) (by simp) pd11 rfl rfl (Nat.le_of_eq rfl) (by decide) (by decide) (by decide) (by decide) rfl ?_
    refine same_intro ?_
    show W h' [b15, b10, b6, b3, b1] 10 48 189 #[.val (.int n), .val (.int a), .val (.int b), .val (.int c), .val (.int d), .val (.int (4 : Int32)), .val (.int c0), .val (.int c1), .val (.int c2), .val (.int c3), .val (.ref b1), .val (.ref b3), .val (.ref b6), .val (.ref b10), .val (.ref b15), .val (.ref id), .unset] [.ref b15]
    refine C.astore 191 #[.val (.int n), .val (.int a), .val (.int b), .val (.int c), .val (.int d), .val (.int (4 : Int32)), .val (.int c0), .val (.int c1), .val (.int c2), .val (.int c3), .val (.ref b1), .val (.ref b3), .val (.ref b6), .val (.ref b10), .val (.ref b15), .val (.ref id), .val (.ref b15)] at_189 rfl rfl rfl ?_
    refine C.aload 193 at_191 rfl rfl rfl ?_
    refine C.ifnullF 196 at_193 rfl ?_
    refine C.aload 198 at_196 rfl rfl rfl ?_
    refine C.callV 201 (as := []) (rest := []) (rm := ⟨1, 0, 0, 13⟩) 0 at_198 rfl (tw 65) (tw 66) (tw 68) nfSelf (tw 67) (tw 4) (tw 69) (by decide) T.1 (sle l Z a0' hw hEL hSA _ cpt SCP hcp SAD SHI SLO b15 s15 [c0, c1, c2, c3] (by simp) T) (by simp) pd12 rfl rfl (Nat.le_of_eq rfl) (by decide) (by decide) (by decide) (by decide) rfl ?_
    refine same_intro ?_
    show W h' [b15, b10, b6, b3, b1] 10 48 201 #[.val (.int n), .val (.int a), .val (.int b), .val (.int c), .val (.int d), .val (.int (4 : Int32)), .val (.int c0), .val (.int c1), .val (.int c2), .val (.int c3), .val (.ref b1), .val (.ref b3), .val (.ref b6), .val (.ref b10), .val (.ref b15), .val (.ref id), .val (.ref b15)] [.int (Int32.ofNat 4)]
    refine C.iload 203 at_201 rfl rfl ?_
    refine C.icmpT 208 at_203 rfl (by decide) ?_
    refine C.aload 210 at_208 rfl rfl rfl ?_
    refine C.iconst 211 (0 : Int32) at_210 rfl rfl ?_
    refine C.callV 214 (as := [.int (0 : Int32)]) (rest := []) (rm := ⟨4, 0, 0, 53⟩) 0 at_211 rfl (tw 75) (tw 76) (tw 78) nfSelf (tw 77) (tw 4) (tw 79) (by decide) T.1 (sca l Z a0' hw hEL hSA _ cpt SCP hcp SAD SHI SLO sf hsf SSF b15 s15 [c0, c1, c2, c3] 0 c0 (by simp) rfl hc0 T) (by simp) pd14 rfl rfl (Nat.le_of_eq rfl) (by decide) (by decide) (by decide) (by decide) rfl ?_
    refine same_intro ?_
    show W h' [b15, b10, b6, b3, b1] 10 48 214 #[.val (.int n), .val (.int a), .val (.int b), .val (.int c), .val (.int d), .val (.int (4 : Int32)), .val (.int c0), .val (.int c1), .val (.int c2), .val (.int c3), .val (.ref b1), .val (.ref b3), .val (.ref b6), .val (.ref b10), .val (.ref b15), .val (.ref id), .val (.ref b15)] [.int c0]
    refine C.iload 216 at_214 rfl rfl ?_
    refine C.icmpT 221 at_216 rfl (teq rfl).1 ?_
    refine C.iload 223 at_221 rfl rfl ?_
    refine C.iconst 224 (2 : Int32) at_223 rfl rfl ?_
    refine C.icmpF 227 at_224 rfl (by decide) ?_
    refine C.aload 229 at_227 rfl rfl rfl ?_
    refine C.iconst 230 (1 : Int32) at_229 rfl rfl ?_
    refine C.callV 233 (as := [.int (1 : Int32)]) (rest := []) (rm := ⟨4, 0, 0, 53⟩) 0 at_230 rfl (tw 75) (tw 76) (tw 78) nfSelf (tw 77) (tw 4) (tw 79) (by decide) T.1 (sca l Z a0' hw hEL hSA _ cpt SCP hcp SAD SHI SLO sf hsf SSF b15 s15 [c0, c1, c2, c3] 1 c1 (by simp) rfl hc1 T) (by simp) pd14 rfl rfl (Nat.le_of_eq rfl) (by decide) (by decide) (by decide) (by decide) rfl ?_
    refine same_intro ?_
    show W h' [b15, b10, b6, b3, b1] 10 48 233 #[.val (.int n), .val (.int a), .val (.int b), .val (.int c), .val (.int d), .val (.int (4 : Int32)), .val (.int c0), .val (.int c1), .val (.int c2), .val (.int c3), .val (.ref b1), .val (.ref b3), .val (.ref b6), .val (.ref b10), .val (.ref b15), .val (.ref id), .val (.ref b15)] [.int c1]
    refine C.iload 235 at_233 rfl rfl ?_
    refine C.icmpT 240 at_235 rfl (teq rfl).1 ?_
    refine C.iload 242 at_240 rfl rfl ?_
    refine C.iconst 243 (3 : Int32) at_242 rfl rfl ?_
    refine C.icmpF 246 at_243 rfl (by decide) ?_
    refine C.aload 248 at_246 rfl rfl rfl ?_
    refine C.iconst 249 (2 : Int32) at_248 rfl rfl ?_
    refine C.callV 252 (as := [.int (2 : Int32)]) (rest := []) (rm := ⟨4, 0, 0, 53⟩) 0 at_249 rfl (tw 75) (tw 76) (tw 78) nfSelf (tw 77) (tw 4) (tw 79) (by decide) T.1 (sca l Z a0' hw hEL hSA _ cpt SCP hcp SAD SHI SLO sf hsf SSF b15 s15 [c0, c1, c2, c3] 2 c2 (by simp) rfl hc2 T) (by simp) pd14 rfl rfl (Nat.le_of_eq rfl) (by decide) (by decide) (by decide) (by decide) rfl ?_
    refine same_intro ?_
    show W h' [b15, b10, b6, b3, b1] 10 48 252 #[.val (.int n), .val (.int a), .val (.int b), .val (.int c), .val (.int d), .val (.int (4 : Int32)), .val (.int c0), .val (.int c1), .val (.int c2), .val (.int c3), .val (.ref b1), .val (.ref b3), .val (.ref b6), .val (.ref b10), .val (.ref b15), .val (.ref id), .val (.ref b15)] [.int c2]
    refine C.iload 254 at_252 rfl rfl ?_
    refine C.icmpT 259 at_254 rfl (teq rfl).1 ?_
    refine C.iload 261 at_259 rfl rfl ?_
    refine C.iconst 262 (4 : Int32) at_261 rfl rfl ?_
    refine C.icmpF 265 at_262 rfl (by decide) ?_
    refine C.aload 267 at_265 rfl rfl rfl ?_
    refine C.iconst 268 (3 : Int32) at_267 rfl rfl ?_
    refine C.callV 271 (as := [.int (3 : Int32)]) (rest := []) (rm := ⟨4, 0, 0, 53⟩) 0 at_268 rfl (tw 75) (tw 76) (tw 78) nfSelf (tw 77) (tw 4) (tw 79) (by decide) T.1 (sca l Z a0' hw hEL hSA _ cpt SCP hcp SAD SHI SLO sf hsf SSF b15 s15 [c0, c1, c2, c3] 3 c3 (by simp) rfl hc3 T) (by simp) pd14 rfl rfl (Nat.le_of_eq rfl) (by decide) (by decide) (by decide) (by decide) rfl ?_
    refine same_intro ?_
    show W h' [b15, b10, b6, b3, b1] 10 48 271 #[.val (.int n), .val (.int a), .val (.int b), .val (.int c), .val (.int d), .val (.int (4 : Int32)), .val (.int c0), .val (.int c1), .val (.int c2), .val (.int c3), .val (.ref b1), .val (.ref b3), .val (.ref b6), .val (.ref b10), .val (.ref b15), .val (.ref id), .val (.ref b15)] [.int c3]
    refine C.iload 273 at_271 rfl rfl ?_
    refine C.icmpT 278 at_273 rfl (teq rfl).1 ?_
    refine C.aload 280 at_278 rfl rfl rfl ?_
    refine C.aload 282 at_280 rfl rfl rfl ?_
    refine C.callV 285 (as := [.ref b15]) (rest := []) (rm := ⟨0, 0, 0, 0⟩) 0 at_282 rfl (tw 97) (tw 98) (tw 100) nfSelf (tw 99) (tw 4) (tw 101) (by decide) T.1 (sqq l Z a0' hw hEL hSA _ b15) (by simp) pd19 rfl rfl (Nat.le_of_eq rfl) (by decide) (by decide) (by decide) (by decide) rfl ?_
    refine same_intro ?_
    show W h' [b15, b10, b6, b3, b1] 10 48 285 #[.val (.int n), .val (.int a), .val (.int b), .val (.int c), .val (.int d), .val (.int (4 : Int32)), .val (.int c0), .val (.int c1), .val (.int c2), .val (.int c3), .val (.ref b1), .val (.ref b3), .val (.ref b6), .val (.ref b10), .val (.ref b15), .val (.ref id), .val (.ref b15)] [.int (1 : Int32)]
    refine C.ifF 288 at_285 rfl (by decide) ?_
    refine C.aload 290 at_288 rfl rfl rfl ?_
    refine C.callV 293 (as := []) (rest := []) (rm := ⟨0, 0, 0, 0⟩) 0 at_290 rfl (tw 102) (tw 103) (tw 105) nfSelf (tw 104) (tw 33) (tw 106) (by decide) XI (iqu l Z a0' hw hEL hSA _ id dq G1) (by simp) pd20 rfl rfl (Nat.le_of_eq rfl) (by decide) (by decide) (by decide) (by decide) rfl ?_
    refine same_intro ?_
    show W h' [b15, b10, b6, b3, b1] 10 48 293 #[.val (.int n), .val (.int a), .val (.int b), .val (.int c), .val (.int d), .val (.int (4 : Int32)), .val (.int c0), .val (.int c1), .val (.int c2), .val (.int c3), .val (.ref b1), .val (.ref b3), .val (.ref b6), .val (.ref b10), .val (.ref b15), .val (.ref id), .val (.ref b15)] [.ref dq]
    refine C.getstatic 296 at_293 rfl (tw 107) SQ ?_
    refine C.acmpF 299 at_296 rfl rfl rfl (by simp [XT.acmp]) ?_
    refine C.iconst 300 (1 : Int32) at_299 rfl rfl ?_
    refine C.goto 304 at_300 rfl ?_
    exact C.retI .boolean at_304 rfl (by simp) rfl (by decide) (by decide) rfl (fun _ q => nomatch q)
  | k + 4, h => exact absurd h (by omega)
set_option maxRecDepth 65536 in
set_option maxHeartbeats 40000000 in
theorem comes_1 {Post : Tables → Env → Array Value → State → Outcome → State → Prop} (hpost : ∀ tb e args s v u, (limb_1_1.after args s (.returned v) u = true ∧ limb_1_2.after args s (.returned v) u = true ∧ True) → ReturnedEndW s (.returned v) u (Jvm.fieldLocs frame_1_writes args s ++ Jvm.arrayLocs frame_1_arrays args s ++ Jvm.staticLocs frame_1_statics s) 32 1152 → Post tb e args s (.returned v) u) :
    ArmFor flags0 classFile x code maxLocals ret World_1 tables_1 room_1 Calls_1 rest_1 Pre_1 Post := by
  intro l hfl _ _ p e ha hc hk s m args below hf hA hF happ hP
  obtain ⟨hcalls, hrest, hpre⟩ := hP
  obtain ⟨-, -, -, hnamed, -, -, -, hat⟩ := (Spec.applies_iff hf).mp happ
  obtain ⟨hg, hn⟩ := and_e (Cond.before_iff.mp (show (Jvm.Cond.and given_1 narrow_1).before args s = true from hpre))
  obtain ⟨h1, h2⟩ := and_e hg
  obtain ⟨w0, w1, w2, w3, w4, rfl⟩ : ∃ w0 w1 w2 w3 w4 : Value, args = #[w0, w1, w2, w3, w4] := by
    have hs : args.size = 5 := by simpa [Cond.value, given_1] using h1
    obtain ⟨L⟩ := args
    match L, hs with
    | [w0, w1, w2, w3, w4], _ => exact ⟨w0, w1, w2, w3, w4, rfl⟩
  have hw := fun d (hd : d ∈ tables_1) => atoms_spec (ws := Jvm.Cond.code x code maxLocals ret :: tables_1) hat d (List.mem_cons_of_mem _ hd)
  have hfit : Fit s := fun {y c} hc i hi => by
    obtain ⟨ha, rfl⟩ := Array.getElem?_eq_some_iff.mp hc
    have q := List.all_eq_true.mp ((Array.all_eq_true_iff_forall_mem.mp hF) _ (Array.getElem_mem ha)) i (List.mem_range.mpr hi)
    simpa [Array.getElem?_eq_getElem hi] using q
  obtain ⟨q0, h2⟩ := and_e h2
  obtain ⟨i0, e0⟩ := is_v q0
  obtain rfl : w0 = (.int i0) := Option.some.inj e0
  obtain ⟨q1, h2⟩ := and_e h2
  obtain ⟨i1, e1⟩ := is_v q1
  obtain rfl : w1 = (.int i1) := Option.some.inj e1
  obtain ⟨q2, h2⟩ := and_e h2
  obtain ⟨i2, e2⟩ := is_v q2
  obtain rfl : w2 = (.int i2) := Option.some.inj e2
  obtain ⟨q3, h2⟩ := and_e h2
  obtain ⟨i3, e3⟩ := is_v q3
  obtain rfl : w3 = (.int i3) := Option.some.inj e3
  obtain ⟨i4, e4⟩ := is_v h2
  obtain rfl : w4 = (.int i4) := Option.some.inj e4
  obtain ⟨hsets, hown0⟩ := atoms_of _ (rest_1_c_eq ▸ (show rest_1_c.before _ s = true from hrest))
  obtain ⟨cpt, ecp⟩ := is_v (Cond.before_iff.mp (hsets _ (List.mem_of_getElem? (i := 1) rfl)))
  have SCP := Sta.start ecp (Or.inl (hsets _ (List.mem_of_getElem? (i := 0) rfl)))
  have hcp := gotF (Cond.eq_ints ecp (Term.int_eval (0))) (not_v (Cond.before_iff.mp (hsets _ (List.mem_of_getElem? (i := 2) rfl))))
  have SAD := Sta.start (eqv_i (Term.int_eval (1)) (Cond.before_iff.mp (hsets _ (List.mem_of_getElem? (i := 12) rfl)))) (Or.inl (hsets _ (List.mem_of_getElem? (i := 11) rfl)))
  have SHI := Sta.start (eqv_i (Term.int_eval (0)) (Cond.before_iff.mp (hsets _ (List.mem_of_getElem? (i := 15) rfl)))) (Or.inl (hsets _ (List.mem_of_getElem? (i := 14) rfl)))
  have SLO := Sta.start (eqv_i (Term.int_eval (8)) (Cond.before_iff.mp (hsets _ (List.mem_of_getElem? (i := 18) rfl)))) (Or.inl (hsets _ (List.mem_of_getElem? (i := 17) rfl)))
  obtain ⟨sf, esf, hsf⟩ := isR_v (Cond.before_iff.mp (hsets _ (List.mem_of_getElem? (i := 8) rfl)))
  have SSF := Sta.start esf (Or.inl (hsets _ (List.mem_of_getElem? (i := 7) rfl)))
  obtain ⟨dq, edq⟩ := exa_v hn
  have SQ := Sta.start edq (Or.inr ⟨hw _ (tw 50), hw _ (tw 51)⟩)
  have hEL : EW s #[.int i0, .int i1, .int i2, .int i3, .int i4] EL0 := EW.nil
  have hCH : CHv s EL0 s.vm s.heap := fun p hp => nomatch hp
  have hSA : ∀ a ∈ Bundle.stringAtoms, a.before #[.int i0, .int i1, .int i2, .int i3, .int i4] s = true := fun a ha => by
    simp only [Bundle.stringAtoms, List.mem_cons, List.not_mem_nil, or_false] at ha
    rcases ha with rfl | rfl | rfl | rfl | rfl | rfl | rfl
    · exact hw _ (tw 4)
    · exact hw _ (tw 3)
    · exact hw _ (tw 20)
    · exact hw _ (tw 30)
    · exact hw _ (tw 28)
    · exact hw _ (tw 36)
    · exact hw _ (tw 37)
  obtain ⟨n, o, h1, h2, h3, _, L, rfl, ⟨rfl, -, N⟩, -, -, hq⟩ := law_con l s _ hw hEL hSA i0 i1 i2 i3 i4 cpt SCP hcp SAD SHI SLO sf hsf SSF dq SQ ⟨Nat.le_refl _, fun _ _ q => q⟩ tables_1 p e ha hc hk s m _ below hf ((Spec.applies_iff_loose hf).mp happ).1 ⟨rfl, State.Warmed39.refl s, rfl, hCH, fun _ q => nomatch q⟩ trivial
  refine ⟨n, _, h1, h2, h3, hpost _ _ _ _ _ _ ⟨Cond.after_iff.mpr rfl, Cond.after_iff.mpr (eq_i res_at (Term.int_eval (1)) rfl), trivial⟩ ⟨hq.1, hq.2.1, hq.2.2.1, (hq.2.2.2.sift fun y hy => Or.inr (N y hy)).mono (by decide) (by decide)⟩⟩
theorem main_1_1 : Claimed_1_1 := comes_1 fun _ _ _ _ _ _ h hF => ⟨h.1, hF⟩
theorem main_1_2 : Claimed_1_2 := comes_1 fun _ _ _ _ _ _ h hF => ⟨h.2.1, hF⟩
end Jvm.Pilot.@@N@@
namespace Jvm.Pilot.@@N@@
open Jvm Jvm.ClassFile Sem Op Lib Jvm.Free Jvm.Stand Jvm.Pilot.@@N@@.Jvm.D
/-! MADE BY PROGRAM (witnessworld.py) out of the Statement's table words and the real class files: 23 classes; the members and pool entries that the words name. The judged class is class 1, her method 1. -/
namespace start1
open Jvm.ClassFile
def u (s : String) : CpInfo := .utf8 (stringToUtf16 s)
/-- a pool by its gaps: so many unusable entries, then the entry; so many at the end -/
def gap : Nat → List CpInfo → List CpInfo
  | 0, r => r
  | n + 1, r => .unusable :: gap n r
def poolList (es : List (Nat × CpInfo)) (last : Nat) : List CpInfo := es.foldr (fun e r => gap e.1 (e.2 :: r)) (gap last [])
def pool (es : List (Nat × CpInfo)) (last : Nat) : Array CpInfo := ⟨poolList es last⟩
def fileOf (pool : Array CpInfo) (this : Nat) (attrs : Array Attribute := #[]) (ms : Array MethodInfo := #[]) (fl : Nat := 33) (sup : Nat := 0) (ifs : Array Nat := #[]) (fds : Array FieldInfo := #[]) : ClassFile where
  minorVersion := 0
  majorVersion := 65
  constantPool := pool
  accessFlags := fl
  thisClass := this
  superClass := sup
  interfaces := ifs
  fields := fds
  methods := ms
  attributes := attrs
def plain (name : String) (sup : Option ClassId) : Class where
  name := name
  kind := .ordinary
  loader := none
  accessFlags := 33
  super := sup
  interfaces := #[]
  cf := none
  fields := #[]
  methods := #[]
  instanceTypes := #[]
  staticTypes := #[]
  resolved := #[]
  callSites := []
  init := .initialized
  statics := none
  mirror := none

def pool0 : Array CpInfo := pool [(5, u "<init>"), (0, u "()V"), (1, .class_ 10), (1, u "java/lang/Object")] 113

def k0c0 : Code := { maxStack := 0, maxLocals := 1, code := object_method_1_code, exceptionTable := #[], attributes := #[] }
def k0m0 : Method := { name := "<init>", desc := "()V", sig := { parameters := [], returnType := none }, accessFlags := 1, code := some k0c0 }
/-- java/lang/Object -/
def k0 : Class := { plain "java/lang/Object" none with
  accessFlags := 33
  interfaces := #[]
  cf := some (fileOf pool0 8 #[] #[{ accessFlags := 1, nameIndex := 5, descriptorIndex := 6, attributes := #[] }] 33 0 #[] #[])
  fields := #[]
  methods := #[k0m0]
  instanceTypes := #[]
  staticTypes := #[]
  resolved := Array.replicate 124 none
  statics := none }

def pool1 : Array CpInfo := pool [(2, .class_ 4), (1, u "java/lang/Object"), (0, u "<init>"), (0, u "()V"), (0, .integer 65535), (0, .class_ 9), (0, u "java/lang/String"), (0, .methodref 8 11), (0, .nameAndType 5 12), (0, u "([C)V"), (0, .methodref 14 15), (0, .class_ 16), (0, .nameAndType 17 18), (0, u "com/example/goneish/goneish/Identifier"), (0, u "exact"), (0, u "(Ljava/lang/String;)Lcom/example/goneish/goneish/Identifier;"), (0, .methodref 14 20), (0, .nameAndType 21 22), (0, u "text"), (0, u "()Ljava/lang/String;"), (0, .methodref 8 24), (0, .nameAndType 25 26), (0, u "length"), (0, u "()I"), (0, .methodref 8 28), (0, .nameAndType 29 30), (0, u "charAt"), (0, u "(I)C"), (0, .methodref 8 32), (0, .nameAndType 33 34), (0, u "equals"), (0, u "(Ljava/lang/Object;)Z"), (0, .methodref 14 36), (0, .nameAndType 37 38), (0, u "quoting"), (0, u "()Lcom/example/goneish/goneish/Identifier$Quoting;"), (0, .fieldref 40 41), (0, .class_ 42), (0, .nameAndType 43 44), (0, u "com/example/goneish/goneish/Identifier$Quoting"), (0, u "DOUBLE_QUOTES"), (0, u "Lcom/example/goneish/goneish/Identifier$Quoting;"), (0, .class_ 46), (0, u "com/example/goneish/goneish/IdentifierExactPinLaw"), (2, u "law"), (0, u "(IIIII)Z")] 7

def k1m0 : Method := { name := "<init>", desc := "()V", sig := { parameters := [], returnType := none }, accessFlags := 1, code := none }
def k1c1 : Code := { maxStack := 4, maxLocals := 17, code := code, exceptionTable := #[], attributes := #[] }
def k1m1 : Method := { name := "law", desc := "(IIIII)Z", sig := { parameters := [.int, .int, .int, .int, .int], returnType := some .boolean }, accessFlags := 9, code := some k1c1 }
/-- com/example/goneish/goneish/IdentifierExactPinLaw -/
def k1 : Class := { plain "com/example/goneish/goneish/IdentifierExactPinLaw" (some 0) with
  accessFlags := 49
  interfaces := #[]
  cf := some (fileOf pool1 45 #[] #[{ accessFlags := 1, nameIndex := 5, descriptorIndex := 6, attributes := #[] }, { accessFlags := 9, nameIndex := 49, descriptorIndex := 50, attributes := #[] }] 49 2 #[] #[])
  fields := #[]
  methods := #[k1m0, k1m1]
  instanceTypes := #[]
  staticTypes := #[]
  resolved := Array.replicate 58 none
  statics := none }

def pool2 : Array CpInfo := pool [(1, .class_ 2), (0, u "java/io/Serializable"), (0, .class_ 4), (0, u "java/lang/Object")] 2

/-- java/io/Serializable -/
def k2 : Class := { plain "java/io/Serializable" (some 0) with
  accessFlags := 1537
  interfaces := #[]
  cf := some (fileOf pool2 1 #[] #[] 1537 3 #[] #[])
  fields := #[]
  methods := #[]
  instanceTypes := #[]
  staticTypes := #[]
  resolved := Array.replicate 7 none
  statics := none }

def pool3 : Array CpInfo := pool [(1, .class_ 2), (0, u "java/lang/Comparable"), (0, .class_ 4), (0, u "java/lang/Object")] 7

/-- java/lang/Comparable -/
def k3 : Class := { plain "java/lang/Comparable" (some 0) with
  accessFlags := 1537
  interfaces := #[]
  cf := some (fileOf pool3 1 #[] #[] 1537 3 #[] #[])
  fields := #[]
  methods := #[]
  instanceTypes := #[]
  staticTypes := #[]
  resolved := Array.replicate 12 none
  statics := none }

def pool4 : Array CpInfo := pool [(2, .class_ 4), (1, u "java/lang/CharSequence"), (42, .class_ 48), (0, u "java/lang/CharSequence$1CodePointIterator"), (10, .class_ 60), (0, u "java/lang/CharSequence$1CharIterator"), (5, .class_ 67), (0, u "java/lang/Object")] 63

/-- java/lang/CharSequence -/
def k4 : Class := { plain "java/lang/CharSequence" (some 0) with
  accessFlags := 1537
  interfaces := #[]
  cf := some (fileOf pool4 2 #[.nestMembers #[47, 59]] #[] 1537 66 #[] #[])
  fields := #[]
  methods := #[]
  instanceTypes := #[]
  staticTypes := #[]
  resolved := Array.replicate 131 none
  statics := none }

def pool5 : Array CpInfo := pool [(1, .class_ 2), (0, u "java/lang/constant/Constable"), (0, .class_ 4), (0, u "java/lang/Object")] 6

/-- java/lang/constant/Constable -/
def k5 : Class := { plain "java/lang/constant/Constable" (some 0) with
  accessFlags := 1537
  interfaces := #[]
  cf := some (fileOf pool5 1 #[] #[] 1537 3 #[] #[])
  fields := #[]
  methods := #[]
  instanceTypes := #[]
  staticTypes := #[]
  resolved := Array.replicate 11 none
  statics := none }

def pool6 : Array CpInfo := pool [(1, .class_ 2), (0, u "java/lang/constant/ConstantDesc"), (0, .class_ 4), (0, u "java/lang/Object")] 32

/-- java/lang/constant/ConstantDesc -/
def k6 : Class := { plain "java/lang/constant/ConstantDesc" (some 0) with
  accessFlags := 1537
  interfaces := #[]
  cf := some (fileOf pool6 1 #[] #[] 1537 3 #[] #[])
  fields := #[]
  methods := #[]
  instanceTypes := #[]
  staticTypes := #[]
  resolved := Array.replicate 37 none
  statics := none }

def pool7 : Array CpInfo := pool [(1, .methodref 2 3), (0, .class_ 4), (0, .nameAndType 5 6), (0, u "java/lang/Object"), (0, u "<init>"), (0, u "()V"), (2, .fieldref 10 11), (0, .class_ 12), (0, .nameAndType 13 14), (0, u "java/lang/String"), (0, u "value"), (0, u "[B"), (0, .fieldref 10 16), (0, .nameAndType 17 18), (0, u "coder"), (0, u "B"), (2, u "hash"), (0, u "I"), (2, u "hashIsZero"), (0, u "Z"), (0, .methodref 10 28), (0, .nameAndType 5 29), (0, u "([CIILjava/lang/Void;)V"), (8, .fieldref 10 39), (0, .nameAndType 40 26), (0, u "COMPACT_STRINGS"), (1, .class_ 44), (1, u "java/lang/StringUTF16"), (0, u "compress"), (1, .methodref 42 48), (0, .nameAndType 49 50), (0, u "coderFromArrayLen"), (0, u "([BI)B"), (56, .class_ 109), (1, u "java/lang/StringLatin1"), (32, u "()Z"), (34, .methodref 42 178), (0, .nameAndType 45 179), (0, u "([CII)[B"), (154, u "()I"), (0, .methodref 10 336), (0, .nameAndType 17 337), (0, u "()B"), (25, u "([BI)C"), (27, u "(II)V"), (35, u "(I)C"), (64, .methodref 10 493), (0, .nameAndType 494 142), (0, u "isLatin1"), (0, .methodref 107 496), (0, .nameAndType 497 363), (0, u "charAt"), (0, .methodref 42 496), (2, u "checkIndex"), (5, u "length"), (35, u "equals"), (29, u "(Ljava/lang/Object;)Z"), (1, .class_ 576), (0, u "java/lang/CharSequence"), (22, u "CASE_INSENSITIVE_ORDER"), (0, u "Ljava/util/Comparator;"), (91, u "isEmpty"), (317, u "([C)V"), (42, .fieldref 1054 1055), (0, .class_ 1056), (0, .nameAndType 1057 1058), (0, u "jdk/internal/util/Preconditions"), (0, u "SIOOBE_FORMATTER"), (0, u "Ljava/util/function/BiFunction;"), (0, .methodref 1054 1060), (0, .nameAndType 501 1061), (0, u "(IILjava/util/function/BiFunction;)I"), (39, u "serialPersistentFields"), (0, u "[Ljava/io/ObjectStreamField;"), (0, .class_ 1104), (0, u "java/lang/String$CaseInsensitiveComparator"), (1, .class_ 1107), (0, u "java/io/Serializable"), (0, .class_ 1109), (0, u "java/lang/Comparable"), (0, .class_ 1111), (0, u "java/lang/constant/Constable"), (0, .class_ 1113), (0, u "java/lang/constant/ConstantDesc"), (2, u "serialVersionUID"), (0, u "J"), (3, u "REPL"), (0, u "C"), (2, u "LATIN1"), (1, u "UTF16")] 323

def k7m0 : Method := { name := "<init>", desc := "()V", sig := { parameters := [], returnType := none }, accessFlags := 1, code := none }
def k7c1 : Code := { maxStack := 5, maxLocals := 2, code := jdk_42_method_3_code, exceptionTable := #[], attributes := #[] }
def k7m1 : Method := { name := "<init>", desc := "([C)V", sig := { parameters := [(.array .char)], returnType := none }, accessFlags := 1, code := some k7c1 }
def k7c2 : Code := { maxStack := 2, maxLocals := 1, code := jdk_42_method_54_code, exceptionTable := #[], attributes := #[] }
def k7m2 : Method := { name := "length", desc := "()I", sig := { parameters := [], returnType := some .int }, accessFlags := 1, code := some k7c2 }
def k7c3 : Code := { maxStack := 1, maxLocals := 1, code := jdk_42_method_55_code, exceptionTable := #[], attributes := #[] }
def k7m3 : Method := { name := "isEmpty", desc := "()Z", sig := { parameters := [], returnType := some .boolean }, accessFlags := 1, code := some k7c3 }
def k7c4 : Code := { maxStack := 2, maxLocals := 2, code := jdk_42_method_56_code, exceptionTable := #[], attributes := #[] }
def k7m4 : Method := { name := "charAt", desc := "(I)C", sig := { parameters := [.int], returnType := some .char }, accessFlags := 1, code := some k7c4 }
def k7c5 : Code := { maxStack := 2, maxLocals := 3, code := jdk_42_method_66_code, exceptionTable := #[], attributes := #[] }
def k7m5 : Method := { name := "equals", desc := "(Ljava/lang/Object;)Z", sig := { parameters := [(.object "java/lang/Object")], returnType := some .boolean }, accessFlags := 1, code := some k7c5 }
def k7c6 : Code := { maxStack := 4, maxLocals := 6, code := jdk_42_method_149_code, exceptionTable := #[], attributes := #[] }
def k7m6 : Method := { name := "<init>", desc := "([CIILjava/lang/Void;)V", sig := { parameters := [(.array .char), .int, .int, (.object "java/lang/Void")], returnType := none }, accessFlags := 2, code := some k7c6 }
def k7c7 : Code := { maxStack := 1, maxLocals := 1, code := jdk_42_method_152_code, exceptionTable := #[], attributes := #[] }
def k7m7 : Method := { name := "coder", desc := "()B", sig := { parameters := [], returnType := some .byte }, accessFlags := 0, code := some k7c7 }
def k7c8 : Code := { maxStack := 1, maxLocals := 1, code := jdk_42_method_154_code, exceptionTable := #[], attributes := #[] }
def k7m8 : Method := { name := "isLatin1", desc := "()Z", sig := { parameters := [], returnType := some .boolean }, accessFlags := 0, code := some k7c8 }
def k7c9 : Code := { maxStack := 3, maxLocals := 2, code := jdk_42_method_155_code, exceptionTable := #[], attributes := #[] }
def k7m9 : Method := { name := "checkIndex", desc := "(II)V", sig := { parameters := [.int, .int], returnType := none }, accessFlags := 8, code := some k7c9 }
/-- java/lang/String -/
def k7 : Class := { plain "java/lang/String" (some 0) with
  accessFlags := 49
  interfaces := #[2, 3, 4, 5, 6]
  cf := some (fileOf pool7 10 #[.nestMembers #[1103]] #[{ accessFlags := 1, nameIndex := 5, descriptorIndex := 6, attributes := #[] }, { accessFlags := 1, nameIndex := 5, descriptorIndex := 1010, attributes := #[] }, { accessFlags := 1, nameIndex := 507, descriptorIndex := 334, attributes := #[] }, { accessFlags := 1, nameIndex := 692, descriptorIndex := 142, attributes := #[] }, { accessFlags := 1, nameIndex := 497, descriptorIndex := 427, attributes := #[] }, { accessFlags := 1, nameIndex := 543, descriptorIndex := 573, attributes := #[] }, { accessFlags := 2, nameIndex := 5, descriptorIndex := 29, attributes := #[] }, { accessFlags := 0, nameIndex := 17, descriptorIndex := 337, attributes := #[] }, { accessFlags := 0, nameIndex := 494, descriptorIndex := 142, attributes := #[] }, { accessFlags := 8, nameIndex := 501, descriptorIndex := 391, attributes := #[] }] 49 2 #[1106, 1108, 575, 1110, 1112] #[{ accessFlags := 18, nameIndex := 13, descriptorIndex := 14, attributes := #[] }, { accessFlags := 18, nameIndex := 17, descriptorIndex := 18, attributes := #[] }, { accessFlags := 2, nameIndex := 21, descriptorIndex := 22, attributes := #[] }, { accessFlags := 2, nameIndex := 25, descriptorIndex := 26, attributes := #[] }, { accessFlags := 26, nameIndex := 1116, descriptorIndex := 1117, attributes := #[] }, { accessFlags := 24, nameIndex := 40, descriptorIndex := 26, attributes := #[] }, { accessFlags := 26, nameIndex := 1101, descriptorIndex := 1102, attributes := #[] }, { accessFlags := 26, nameIndex := 1121, descriptorIndex := 1122, attributes := #[] }, { accessFlags := 25, nameIndex := 599, descriptorIndex := 600, attributes := #[] }, { accessFlags := 24, nameIndex := 1125, descriptorIndex := 18, attributes := #[] }, { accessFlags := 24, nameIndex := 1127, descriptorIndex := 18, attributes := #[] }])
  fields := #[{ name := "value", type := (.array .byte), accessFlags := 18, slot := 0, constantValue := 0 }, { name := "coder", type := .byte, accessFlags := 18, slot := 1, constantValue := 0 }, { name := "hash", type := .int, accessFlags := 2, slot := 2, constantValue := 0 }, { name := "hashIsZero", type := .boolean, accessFlags := 2, slot := 3, constantValue := 0 }, { name := "serialVersionUID", type := .long, accessFlags := 26, slot := 0, constantValue := 0 }, { name := "COMPACT_STRINGS", type := .boolean, accessFlags := 24, slot := 1, constantValue := 0 }, { name := "serialPersistentFields", type := (.array (.object "java/io/ObjectStreamField")), accessFlags := 26, slot := 2, constantValue := 0 }, { name := "REPL", type := .char, accessFlags := 26, slot := 3, constantValue := 0 }, { name := "CASE_INSENSITIVE_ORDER", type := (.object "java/util/Comparator"), accessFlags := 25, slot := 4, constantValue := 0 }, { name := "LATIN1", type := .byte, accessFlags := 24, slot := 5, constantValue := 0 }, { name := "UTF16", type := .byte, accessFlags := 24, slot := 6, constantValue := 0 }]
  methods := #[k7m0, k7m1, k7m2, k7m3, k7m4, k7m5, k7m6, k7m7, k7m8, k7m9]
  instanceTypes := #[(.array .byte), .byte, .int, .boolean]
  staticTypes := #[.long, .boolean, (.array (.object "java/io/ObjectStreamField")), .char, (.object "java/util/Comparator"), .byte, .byte]
  resolved := Array.replicate 1451 none
  statics := some 0 }

def pool8 : Array CpInfo := pool [(3, .class_ 4), (0, u "java/lang/String"), (1, .class_ 8), (1, u "java/lang/Object"), (0, u "<init>"), (0, u "()V"), (0, .methodref 12 13), (0, .class_ 14), (0, .nameAndType 15 16), (0, u "java/lang/StringUTF16"), (0, u "newBytesLength"), (0, u "(I)I"), (3, .integer 1073741823), (23, .fieldref 12 45), (0, .nameAndType 46 47), (0, u "$assertionsDisabled"), (0, u "Z"), (0, .methodref 12 49), (0, .nameAndType 50 51), (0, u "length"), (0, u "([B)I"), (7, .fieldref 12 60), (0, .nameAndType 61 62), (0, u "HI_BYTE_SHIFT"), (0, u "I"), (0, .fieldref 12 64), (0, .nameAndType 65 62), (0, u "LO_BYTE_SHIFT"), (1, .methodref 12 68), (0, .nameAndType 69 70), (0, u "checkIndex"), (0, u "(I[B)V"), (0, .methodref 12 72), (0, .nameAndType 73 74), (0, u "getChar"), (0, u "([BI)C"), (32, .methodref 12 108), (0, .nameAndType 109 110), (0, u "newBytesFor"), (0, u "(I)[B"), (0, .methodref 12 112), (0, .nameAndType 113 114), (0, u "putChar"), (0, u "([BII)V"), (0, .methodref 12 116), (0, .nameAndType 117 118), (0, u "compress"), (0, u "([CI[BII)I"), (0, .methodref 12 120), (0, .nameAndType 121 122), (0, u "toBytes"), (0, u "([CII)[B"), (138, u "coderFromArrayLen"), (0, u "([BI)B"), (106, .class_ 371), (1, u "java/lang/StringUTF16$LinesSpliterator"), (20, u "charAt"), (21, .methodref 3 415), (0, .nameAndType 69 416), (0, u "(II)V"), (13, u "MAX_LENGTH"), (196, .class_ 628), (0, u "java/lang/StringUTF16$CodePointsSpliterator"), (0, .class_ 630), (0, u "java/lang/StringUTF16$CharsSpliterator")] 4

def k8m0 : Method := { name := "<init>", desc := "()V", sig := { parameters := [], returnType := none }, accessFlags := 0, code := none }
def k8c1 : Code := { maxStack := 1, maxLocals := 1, code := jdk_52_method_2_code, exceptionTable := #[], attributes := #[] }
def k8m1 : Method := { name := "newBytesFor", desc := "(I)[B", sig := { parameters := [.int], returnType := some (.array .byte) }, accessFlags := 9, code := some k8c1 }
def k8c2 : Code := { maxStack := 4, maxLocals := 1, code := jdk_52_method_3_code, exceptionTable := #[], attributes := #[] }
def k8m2 : Method := { name := "newBytesLength", desc := "(I)I", sig := { parameters := [.int], returnType := some .int }, accessFlags := 9, code := some k8c2 }
def k8c3 : Code := { maxStack := 4, maxLocals := 3, code := jdk_52_method_4_code, exceptionTable := #[], attributes := #[] }
def k8m3 : Method := { name := "putChar", desc := "([BII)V", sig := { parameters := [(.array .byte), .int, .int], returnType := none }, accessFlags := 8, code := some k8c3 }
def k8c4 : Code := { maxStack := 3, maxLocals := 2, code := jdk_52_method_5_code, exceptionTable := #[], attributes := #[] }
def k8m4 : Method := { name := "getChar", desc := "([BI)C", sig := { parameters := [(.array .byte), .int], returnType := some .char }, accessFlags := 8, code := some k8c4 }
def k8c5 : Code := { maxStack := 2, maxLocals := 1, code := jdk_52_method_6_code, exceptionTable := #[], attributes := #[] }
def k8m5 : Method := { name := "length", desc := "([B)I", sig := { parameters := [(.array .byte)], returnType := some .int }, accessFlags := 9, code := some k8c5 }
def k8c6 : Code := { maxStack := 4, maxLocals := 5, code := jdk_52_method_14_code, exceptionTable := #[], attributes := #[] }
def k8m6 : Method := { name := "toBytes", desc := "([CII)[B", sig := { parameters := [(.array .char), .int, .int], returnType := some (.array .byte) }, accessFlags := 9, code := some k8c6 }
def k8c7 : Code := { maxStack := 2, maxLocals := 2, code := jdk_52_method_15_code, exceptionTable := #[], attributes := #[] }
def k8m7 : Method := { name := "coderFromArrayLen", desc := "([BI)B", sig := { parameters := [(.array .byte), .int], returnType := some .byte }, accessFlags := 8, code := some k8c7 }
def k8c8 : Code := { maxStack := 5, maxLocals := 6, code := jdk_52_method_16_code, exceptionTable := #[], attributes := #[] }
def k8m8 : Method := { name := "compress", desc := "([CII)[B", sig := { parameters := [(.array .char), .int, .int], returnType := some (.array .byte) }, accessFlags := 9, code := some k8c8 }
def k8c9 : Code := { maxStack := 3, maxLocals := 7, code := jdk_52_method_21_code, exceptionTable := #[], attributes := #[] }
def k8m9 : Method := { name := "compress", desc := "([CI[BII)I", sig := { parameters := [(.array .char), .int, (.array .byte), .int, .int], returnType := some .int }, accessFlags := 9, code := some k8c9 }
def k8c10 : Code := { maxStack := 2, maxLocals := 2, code := jdk_52_method_83_code, exceptionTable := #[], attributes := #[] }
def k8m10 : Method := { name := "charAt", desc := "([BI)C", sig := { parameters := [(.array .byte), .int], returnType := some .char }, accessFlags := 9, code := some k8c10 }
def k8c11 : Code := { maxStack := 2, maxLocals := 2, code := jdk_52_method_91_code, exceptionTable := #[], attributes := #[] }
def k8m11 : Method := { name := "checkIndex", desc := "(I[B)V", sig := { parameters := [.int, (.array .byte)], returnType := none }, accessFlags := 9, code := some k8c11 }
/-- java/lang/StringUTF16 -/
def k8 : Class := { plain "java/lang/StringUTF16" (some 0) with
  accessFlags := 48
  interfaces := #[]
  cf := some (fileOf pool8 12 #[.nestMembers #[627, 629, 369]] #[{ accessFlags := 0, nameIndex := 9, descriptorIndex := 10, attributes := #[] }, { accessFlags := 9, nameIndex := 109, descriptorIndex := 110, attributes := #[] }, { accessFlags := 9, nameIndex := 15, descriptorIndex := 16, attributes := #[] }, { accessFlags := 8, nameIndex := 113, descriptorIndex := 114, attributes := #[] }, { accessFlags := 8, nameIndex := 73, descriptorIndex := 74, attributes := #[] }, { accessFlags := 9, nameIndex := 50, descriptorIndex := 51, attributes := #[] }, { accessFlags := 9, nameIndex := 121, descriptorIndex := 122, attributes := #[] }, { accessFlags := 8, nameIndex := 261, descriptorIndex := 262, attributes := #[] }, { accessFlags := 9, nameIndex := 117, descriptorIndex := 122, attributes := #[] }, { accessFlags := 9, nameIndex := 117, descriptorIndex := 118, attributes := #[] }, { accessFlags := 9, nameIndex := 392, descriptorIndex := 74, attributes := #[] }, { accessFlags := 9, nameIndex := 69, descriptorIndex := 70, attributes := #[] }] 48 6 #[] #[{ accessFlags := 26, nameIndex := 61, descriptorIndex := 62, attributes := #[] }, { accessFlags := 26, nameIndex := 65, descriptorIndex := 62, attributes := #[] }, { accessFlags := 24, nameIndex := 430, descriptorIndex := 62, attributes := #[] }, { accessFlags := 4120, nameIndex := 46, descriptorIndex := 47, attributes := #[] }])
  fields := #[{ name := "HI_BYTE_SHIFT", type := .int, accessFlags := 26, slot := 0, constantValue := 0 }, { name := "LO_BYTE_SHIFT", type := .int, accessFlags := 26, slot := 1, constantValue := 0 }, { name := "MAX_LENGTH", type := .int, accessFlags := 24, slot := 2, constantValue := 0 }, { name := "$assertionsDisabled", type := .boolean, accessFlags := 4120, slot := 3, constantValue := 0 }]
  methods := #[k8m0, k8m1, k8m2, k8m3, k8m4, k8m5, k8m6, k8m7, k8m8, k8m9, k8m10, k8m11]
  instanceTypes := #[]
  staticTypes := #[.int, .int, .int, .boolean]
  resolved := Array.replicate 635 none
  statics := some 1 }

def pool9 : Array CpInfo := pool [(1, .methodref 2 3), (0, .class_ 4), (0, .nameAndType 5 6), (0, u "java/lang/Object"), (0, u "<init>"), (0, u "()V"), (0, .fieldref 8 9), (0, .class_ 10), (0, .nameAndType 11 12), (0, u "com/example/goneish/goneish/Identifier"), (0, u "text"), (0, u "Ljava/lang/String;"), (0, .fieldref 8 14), (0, .nameAndType 15 16), (0, u "quoting"), (0, u "Lcom/example/goneish/goneish/Identifier$Quoting;"), (2, .methodref 20 21), (0, .class_ 22), (0, .nameAndType 23 24), (0, u "java/util/Objects"), (0, u "requireNonNull"), (0, u "(Ljava/lang/Object;Ljava/lang/String;)Ljava/lang/Object;"), (3, .class_ 30), (1, u "java/lang/String"), (6, .fieldref 38 39), (0, .class_ 40), (0, .nameAndType 41 16), (0, u "com/example/goneish/goneish/Identifier$Quoting"), (0, u "DOUBLE_QUOTES"), (0, .methodref 8 43), (0, .nameAndType 5 44), (0, u "(Ljava/lang/String;Lcom/example/goneish/goneish/Identifier$Quoting;)V"), (5, .methodref 28 51), (0, .nameAndType 52 53), (0, u "isEmpty"), (0, u "()Z"), (24, u "(Ljava/lang/String;)Lcom/example/goneish/goneish/Identifier;"), (11, .string 91), (0, u "name"), (38, u "()Ljava/lang/String;"), (36, u "exact"), (25, .class_ 195), (1, u "com/example/goneish/goneish/Identifier$RunTest"), (25, .class_ 223), (1, u "com/example/goneish/goneish/Identifier$NameRunTest"), (7, u "()Lcom/example/goneish/goneish/Identifier$Quoting;")] 67

def k9c0 : Code := { maxStack := 2, maxLocals := 3, code := prog_5_method_1_code, exceptionTable := #[], attributes := #[] }
def k9m0 : Method := { name := "<init>", desc := "(Ljava/lang/String;Lcom/example/goneish/goneish/Identifier$Quoting;)V", sig := { parameters := [(.object "java/lang/String"), (.object "com/example/goneish/goneish/Identifier$Quoting")], returnType := none }, accessFlags := 2, code := some k9c0 }
def k9c1 : Code := { maxStack := 4, maxLocals := 1, code := prog_5_method_4_code, exceptionTable := #[], attributes := #[] }
def k9m1 : Method := { name := "exact", desc := "(Ljava/lang/String;)Lcom/example/goneish/goneish/Identifier;", sig := { parameters := [(.object "java/lang/String")], returnType := some (.object "com/example/goneish/goneish/Identifier") }, accessFlags := 9, code := some k9c1 }
def k9c2 : Code := { maxStack := 1, maxLocals := 1, code := prog_5_method_6_code, exceptionTable := #[], attributes := #[] }
def k9m2 : Method := { name := "text", desc := "()Ljava/lang/String;", sig := { parameters := [], returnType := some (.object "java/lang/String") }, accessFlags := 1, code := some k9c2 }
def k9c3 : Code := { maxStack := 1, maxLocals := 1, code := prog_5_method_7_code, exceptionTable := #[], attributes := #[] }
def k9m3 : Method := { name := "quoting", desc := "()Lcom/example/goneish/goneish/Identifier$Quoting;", sig := { parameters := [], returnType := some (.object "com/example/goneish/goneish/Identifier$Quoting") }, accessFlags := 0, code := some k9c3 }
/-- com/example/goneish/goneish/Identifier -/
def k9 : Class := { plain "com/example/goneish/goneish/Identifier" (some 0) with
  accessFlags := 49
  interfaces := #[]
  cf := some (fileOf pool9 8 #[.nestMembers #[193, 221, 38]] #[{ accessFlags := 2, nameIndex := 5, descriptorIndex := 44, attributes := #[] }, { accessFlags := 9, nameIndex := 167, descriptorIndex := 78, attributes := #[] }, { accessFlags := 1, nameIndex := 11, descriptorIndex := 130, attributes := #[] }, { accessFlags := 0, nameIndex := 15, descriptorIndex := 231, attributes := #[] }] 49 2 #[] #[{ accessFlags := 18, nameIndex := 11, descriptorIndex := 12, attributes := #[] }, { accessFlags := 18, nameIndex := 15, descriptorIndex := 16, attributes := #[] }])
  fields := #[{ name := "text", type := (.object "java/lang/String"), accessFlags := 18, slot := 0, constantValue := 0 }, { name := "quoting", type := (.object "com/example/goneish/goneish/Identifier$Quoting"), accessFlags := 18, slot := 1, constantValue := 0 }]
  methods := #[k9m0, k9m1, k9m2, k9m3]
  instanceTypes := #[(.object "java/lang/String"), (.object "com/example/goneish/goneish/Identifier$Quoting")]
  staticTypes := #[]
  resolved := Array.replicate 299 none
  statics := none }

def pool10 : Array CpInfo := pool [(2, .class_ 4), (1, u "java/lang/Object"), (0, u "<init>"), (0, u "()V"), (35, .class_ 44), (1, u "java/util/Objects"), (0, u "requireNonNull"), (48, u "(Ljava/lang/Object;Ljava/lang/String;)Ljava/lang/Object;")] 89

def k10m0 : Method := { name := "<init>", desc := "()V", sig := { parameters := [], returnType := none }, accessFlags := 2, code := none }
def k10c1 : Code := { maxStack := 3, maxLocals := 2, code := jdk_31_method_11_code, exceptionTable := #[], attributes := #[] }
def k10m1 : Method := { name := "requireNonNull", desc := "(Ljava/lang/Object;Ljava/lang/String;)Ljava/lang/Object;", sig := { parameters := [(.object "java/lang/Object"), (.object "java/lang/String")], returnType := some (.object "java/lang/Object") }, accessFlags := 9, code := some k10c1 }
/-- java/util/Objects -/
def k10 : Class := { plain "java/util/Objects" (some 0) with
  accessFlags := 49
  interfaces := #[]
  cf := some (fileOf pool10 42 #[] #[{ accessFlags := 2, nameIndex := 5, descriptorIndex := 6, attributes := #[] }, { accessFlags := 9, nameIndex := 45, descriptorIndex := 94, attributes := #[] }] 49 2 #[] #[])
  fields := #[]
  methods := #[k10m0, k10m1]
  instanceTypes := #[]
  staticTypes := #[]
  resolved := Array.replicate 184 none
  statics := none }

def pool11 : Array CpInfo := pool [(2, .class_ 4), (1, u "java/lang/Enum"), (0, u "name"), (0, u "Ljava/lang/String;"), (2, u "ordinal"), (0, u "I"), (1, .class_ 14), (1, u "java/lang/Object"), (4, u "hash"), (86, .class_ 108), (1, u "java/lang/Enum$EnumDesc"), (2, .class_ 112), (0, u "java/lang/constant/Constable"), (0, .class_ 114), (0, u "java/lang/Comparable"), (0, .class_ 116), (0, u "java/io/Serializable")] 87

/-- java/lang/Enum -/
def k11 : Class := { plain "java/lang/Enum" (some 0) with
  accessFlags := 1057
  interfaces := #[5, 3, 2]
  cf := some (fileOf pool11 2 #[.nestMembers #[106]] #[] 1057 12 #[111, 113, 115] #[{ accessFlags := 18, nameIndex := 5, descriptorIndex := 6, attributes := #[] }, { accessFlags := 18, nameIndex := 9, descriptorIndex := 10, attributes := #[] }, { accessFlags := 2, nameIndex := 19, descriptorIndex := 10, attributes := #[] }])
  fields := #[{ name := "name", type := (.object "java/lang/String"), accessFlags := 18, slot := 0, constantValue := 0 }, { name := "ordinal", type := .int, accessFlags := 18, slot := 1, constantValue := 0 }, { name := "hash", type := .int, accessFlags := 2, slot := 2, constantValue := 0 }]
  methods := #[]
  instanceTypes := #[(.object "java/lang/String"), .int, .int]
  staticTypes := #[]
  resolved := Array.replicate 204 none
  statics := none }

def pool12 : Array CpInfo := pool [(1, .class_ 2), (0, u "com/example/goneish/goneish/Identifier$Quoting"), (2, u "BARE"), (0, u "Lcom/example/goneish/goneish/Identifier$Quoting;"), (2, u "DOUBLE_QUOTES"), (2, u "BACKQUOTES"), (2, u "$VALUES"), (0, u "[Lcom/example/goneish/goneish/Identifier$Quoting;"), (6, .class_ 25), (1, u "java/lang/Enum"), (26, .class_ 53), (0, u "com/example/goneish/goneish/Identifier")] 2

/-- com/example/goneish/goneish/Identifier$Quoting -/
def k12 : Class := { plain "com/example/goneish/goneish/Identifier$Quoting" (some 11) with
  accessFlags := 16432
  interfaces := #[]
  cf := some (fileOf pool12 1 #[.nestHost 52] #[] 16432 23 #[] #[{ accessFlags := 16409, nameIndex := 5, descriptorIndex := 6, attributes := #[] }, { accessFlags := 16409, nameIndex := 9, descriptorIndex := 6, attributes := #[] }, { accessFlags := 16409, nameIndex := 12, descriptorIndex := 6, attributes := #[] }, { accessFlags := 4122, nameIndex := 15, descriptorIndex := 16, attributes := #[] }])
  fields := #[{ name := "BARE", type := (.object "com/example/goneish/goneish/Identifier$Quoting"), accessFlags := 16409, slot := 0, constantValue := 0 }, { name := "DOUBLE_QUOTES", type := (.object "com/example/goneish/goneish/Identifier$Quoting"), accessFlags := 16409, slot := 1, constantValue := 0 }, { name := "BACKQUOTES", type := (.object "com/example/goneish/goneish/Identifier$Quoting"), accessFlags := 16409, slot := 2, constantValue := 0 }, { name := "$VALUES", type := (.array (.object "com/example/goneish/goneish/Identifier$Quoting")), accessFlags := 4122, slot := 3, constantValue := 0 }]
  methods := #[]
  instanceTypes := #[(.object "java/lang/String"), .int, .int]
  staticTypes := #[(.object "com/example/goneish/goneish/Identifier$Quoting"), (.object "com/example/goneish/goneish/Identifier$Quoting"), (.object "com/example/goneish/goneish/Identifier$Quoting"), (.array (.object "com/example/goneish/goneish/Identifier$Quoting"))]
  resolved := Array.replicate 56 none
  statics := some 2 }

def pool13 : Array CpInfo := pool [(1, .class_ 2), (0, u "java/lang/String"), (1, .class_ 6), (1, u "java/lang/Object"), (0, u "<init>"), (0, u "()V"), (0, .methodref 1 10), (0, .nameAndType 11 12), (0, u "checkIndex"), (0, u "(II)V"), (1, .class_ 16), (1, u "java/lang/StringLatin1"), (36, u "([BI)C"), (67, u "$assertionsDisabled"), (0, u "Z"), (98, .class_ 223), (1, u "java/lang/StringLatin1$LinesSpliterator"), (28, u "charAt"), (137, .class_ 391), (0, u "java/lang/StringLatin1$CharsSpliterator")] 3

def k13m0 : Method := { name := "<init>", desc := "()V", sig := { parameters := [], returnType := none }, accessFlags := 0, code := none }
def k13c1 : Code := { maxStack := 2, maxLocals := 2, code := jdk_43_method_2_code, exceptionTable := #[], attributes := #[] }
def k13m1 : Method := { name := "charAt", desc := "([BI)C", sig := { parameters := [(.array .byte), .int], returnType := some .char }, accessFlags := 9, code := some k13c1 }
/-- java/lang/StringLatin1 -/
def k13 : Class := { plain "java/lang/StringLatin1" (some 0) with
  accessFlags := 48
  interfaces := #[]
  cf := some (fileOf pool13 14 #[.nestMembers #[390, 221]] #[{ accessFlags := 0, nameIndex := 7, descriptorIndex := 8, attributes := #[] }, { accessFlags := 9, nameIndex := 252, descriptorIndex := 53, attributes := #[] }] 48 4 #[] #[{ accessFlags := 4120, nameIndex := 121, descriptorIndex := 122, attributes := #[] }])
  fields := #[{ name := "$assertionsDisabled", type := .boolean, accessFlags := 4120, slot := 0, constantValue := 0 }]
  methods := #[k13m0, k13m1]
  instanceTypes := #[]
  staticTypes := #[.boolean]
  resolved := Array.replicate 395 none
  statics := none }

def pool14 : Array CpInfo := pool [(2, .class_ 4), (1, u "java/lang/Object"), (0, u "<init>"), (0, u "()V"), (17, .class_ 26), (1, u "jdk/internal/util/Preconditions"), (6, u "checkIndex"), (21, .class_ 56), (0, u "jdk/internal/util/Preconditions$4"), (57, .class_ 115), (0, u "jdk/internal/util/Preconditions$1"), (7, u "SIOOBE_FORMATTER"), (0, u "Ljava/util/function/BiFunction;"), (0, .class_ 126), (0, u "jdk/internal/util/Preconditions$2"), (3, u "AIOOBE_FORMATTER"), (0, .class_ 132), (0, u "jdk/internal/util/Preconditions$3"), (3, u "IOOBE_FORMATTER"), (41, u "(IILjava/util/function/BiFunction;)I")] 15

def k14m0 : Method := { name := "<init>", desc := "()V", sig := { parameters := [], returnType := none }, accessFlags := 1, code := none }
def k14c1 : Code := { maxStack := 3, maxLocals := 3, code := jdk_41_method_11_code, exceptionTable := #[], attributes := #[] }
def k14m1 : Method := { name := "checkIndex", desc := "(IILjava/util/function/BiFunction;)I", sig := { parameters := [.int, .int, (.object "java/util/function/BiFunction")], returnType := some .int }, accessFlags := 9, code := some k14c1 }
/-- jdk/internal/util/Preconditions -/
def k14 : Class := { plain "jdk/internal/util/Preconditions" (some 0) with
  accessFlags := 33
  interfaces := #[]
  cf := some (fileOf pool14 24 #[.nestMembers #[55, 131, 125, 114]] #[{ accessFlags := 1, nameIndex := 5, descriptorIndex := 6, attributes := #[] }, { accessFlags := 9, nameIndex := 33, descriptorIndex := 178, attributes := #[] }] 33 2 #[] #[{ accessFlags := 25, nameIndex := 123, descriptorIndex := 124, attributes := #[] }, { accessFlags := 25, nameIndex := 130, descriptorIndex := 124, attributes := #[] }, { accessFlags := 25, nameIndex := 136, descriptorIndex := 124, attributes := #[] }])
  fields := #[{ name := "SIOOBE_FORMATTER", type := (.object "java/util/function/BiFunction"), accessFlags := 25, slot := 0, constantValue := 0 }, { name := "AIOOBE_FORMATTER", type := (.object "java/util/function/BiFunction"), accessFlags := 25, slot := 1, constantValue := 0 }, { name := "IOOBE_FORMATTER", type := (.object "java/util/function/BiFunction"), accessFlags := 25, slot := 2, constantValue := 0 }]
  methods := #[k14m0, k14m1]
  instanceTypes := #[]
  staticTypes := #[(.object "java/util/function/BiFunction"), (.object "java/util/function/BiFunction"), (.object "java/util/function/BiFunction")]
  resolved := Array.replicate 194 none
  statics := some 3 }

def pool15 : Array CpInfo := pool [(9, u "<init>"), (6, .class_ 18), (1, u "java/lang/Object"), (0, u "()V"), (1, .class_ 23), (1, u "jdk/internal/util/ArraysSupport"), (0, u "LOG2_ARRAY_LONG_INDEX_SCALE"), (0, u "I"), (2, u "U"), (0, u "Ljdk/internal/misc/Unsafe;"), (8, u "BIG_ENDIAN"), (0, u "Z"), (8, u "LOG2_BYTE_BIT_SIZE"), (4, u "LOG2_ARRAY_INT_INDEX_SCALE"), (54, u "JLA"), (0, u "Ljdk/internal/access/JavaLangAccess;"), (11, u "LOG2_ARRAY_BOOLEAN_INDEX_SCALE"), (9, u "LOG2_ARRAY_BYTE_INDEX_SCALE"), (5, u "LOG2_ARRAY_CHAR_INDEX_SCALE"), (5, u "LOG2_ARRAY_SHORT_INDEX_SCALE"), (18, u "LOG2_ARRAY_FLOAT_INDEX_SCALE"), (24, u "LOG2_ARRAY_DOUBLE_INDEX_SCALE"), (89, u "T_BOOLEAN"), (2, u "T_CHAR"), (1, u "T_FLOAT"), (1, u "T_DOUBLE"), (1, u "T_BYTE"), (1, u "T_SHORT"), (1, u "T_INT"), (1, u "T_LONG"), (1, u "SOFT_MAX_ARRAY_LENGTH")] 83

def k15m0 : Method := { name := "<init>", desc := "()V", sig := { parameters := [], returnType := none }, accessFlags := 2, code := none }
/-- jdk/internal/util/ArraysSupport -/
def k15 : Class := { plain "jdk/internal/util/ArraysSupport" (some 0) with
  accessFlags := 33
  interfaces := #[]
  cf := some (fileOf pool15 21 #[] #[{ accessFlags := 2, nameIndex := 9, descriptorIndex := 19, attributes := #[] }] 33 16 #[] #[{ accessFlags := 24, nameIndex := 28, descriptorIndex := 29, attributes := #[] }, { accessFlags := 26, nameIndex := 38, descriptorIndex := 39, attributes := #[] }, { accessFlags := 25, nameIndex := 121, descriptorIndex := 25, attributes := #[] }, { accessFlags := 25, nameIndex := 131, descriptorIndex := 25, attributes := #[] }, { accessFlags := 25, nameIndex := 137, descriptorIndex := 25, attributes := #[] }, { accessFlags := 25, nameIndex := 143, descriptorIndex := 25, attributes := #[] }, { accessFlags := 25, nameIndex := 53, descriptorIndex := 25, attributes := #[] }, { accessFlags := 25, nameIndex := 24, descriptorIndex := 25, attributes := #[] }, { accessFlags := 25, nameIndex := 162, descriptorIndex := 25, attributes := #[] }, { accessFlags := 25, nameIndex := 187, descriptorIndex := 25, attributes := #[] }, { accessFlags := 26, nameIndex := 48, descriptorIndex := 25, attributes := #[] }, { accessFlags := 25, nameIndex := 277, descriptorIndex := 25, attributes := #[] }, { accessFlags := 25, nameIndex := 280, descriptorIndex := 25, attributes := #[] }, { accessFlags := 25, nameIndex := 282, descriptorIndex := 25, attributes := #[] }, { accessFlags := 25, nameIndex := 284, descriptorIndex := 25, attributes := #[] }, { accessFlags := 25, nameIndex := 286, descriptorIndex := 25, attributes := #[] }, { accessFlags := 25, nameIndex := 288, descriptorIndex := 25, attributes := #[] }, { accessFlags := 25, nameIndex := 290, descriptorIndex := 25, attributes := #[] }, { accessFlags := 25, nameIndex := 292, descriptorIndex := 25, attributes := #[] }, { accessFlags := 26, nameIndex := 108, descriptorIndex := 109, attributes := #[] }, { accessFlags := 25, nameIndex := 294, descriptorIndex := 25, attributes := #[] }])
  fields := #[{ name := "U", type := (.object "jdk/internal/misc/Unsafe"), accessFlags := 24, slot := 0, constantValue := 0 }, { name := "BIG_ENDIAN", type := .boolean, accessFlags := 26, slot := 1, constantValue := 0 }, { name := "LOG2_ARRAY_BOOLEAN_INDEX_SCALE", type := .int, accessFlags := 25, slot := 2, constantValue := 0 }, { name := "LOG2_ARRAY_BYTE_INDEX_SCALE", type := .int, accessFlags := 25, slot := 3, constantValue := 0 }, { name := "LOG2_ARRAY_CHAR_INDEX_SCALE", type := .int, accessFlags := 25, slot := 4, constantValue := 0 }, { name := "LOG2_ARRAY_SHORT_INDEX_SCALE", type := .int, accessFlags := 25, slot := 5, constantValue := 0 }, { name := "LOG2_ARRAY_INT_INDEX_SCALE", type := .int, accessFlags := 25, slot := 6, constantValue := 0 }, { name := "LOG2_ARRAY_LONG_INDEX_SCALE", type := .int, accessFlags := 25, slot := 7, constantValue := 0 }, { name := "LOG2_ARRAY_FLOAT_INDEX_SCALE", type := .int, accessFlags := 25, slot := 8, constantValue := 0 }, { name := "LOG2_ARRAY_DOUBLE_INDEX_SCALE", type := .int, accessFlags := 25, slot := 9, constantValue := 0 }, { name := "LOG2_BYTE_BIT_SIZE", type := .int, accessFlags := 26, slot := 10, constantValue := 0 }, { name := "T_BOOLEAN", type := .int, accessFlags := 25, slot := 11, constantValue := 0 }, { name := "T_CHAR", type := .int, accessFlags := 25, slot := 12, constantValue := 0 }, { name := "T_FLOAT", type := .int, accessFlags := 25, slot := 13, constantValue := 0 }, { name := "T_DOUBLE", type := .int, accessFlags := 25, slot := 14, constantValue := 0 }, { name := "T_BYTE", type := .int, accessFlags := 25, slot := 15, constantValue := 0 }, { name := "T_SHORT", type := .int, accessFlags := 25, slot := 16, constantValue := 0 }, { name := "T_INT", type := .int, accessFlags := 25, slot := 17, constantValue := 0 }, { name := "T_LONG", type := .int, accessFlags := 25, slot := 18, constantValue := 0 }, { name := "JLA", type := (.object "jdk/internal/access/JavaLangAccess"), accessFlags := 26, slot := 19, constantValue := 0 }, { name := "SOFT_MAX_ARRAY_LENGTH", type := .int, accessFlags := 25, slot := 20, constantValue := 0 }]
  methods := #[k15m0]
  instanceTypes := #[]
  staticTypes := #[(.object "jdk/internal/misc/Unsafe"), .boolean, .int, .int, .int, .int, .int, .int, .int, .int, .int, .int, .int, .int, .int, .int, .int, .int, .int, (.object "jdk/internal/access/JavaLangAccess"), .int]
  resolved := Array.replicate 378 none
  statics := none }

def pool16 : Array CpInfo := pool [(1, u "java/lang/Cloneable"), (0, .class_ 1), (0, u "java/lang/Object"), (0, .class_ 3)] 3

/-- java/lang/Cloneable -/
def k16 : Class := { plain "java/lang/Cloneable" (some 0) with
  accessFlags := 1537
  interfaces := #[]
  cf := some (fileOf pool16 2 #[] #[] 1537 4 #[] #[])
  fields := #[]
  methods := #[]
  instanceTypes := #[]
  staticTypes := #[]
  resolved := Array.replicate 8 none
  statics := none }

/-- the primitive byte -/
def k17 : Class := { plain "byte" none with kind := .primitive 'B', accessFlags := 0x411 }
/-- [B -/
def k18 : Class := { plain "[B" (some 0) with kind := .array 17 .byte, interfaces := #[16, 2], accessFlags := 1041 }

/-- the primitive char -/
def k19 : Class := { plain "char" none with kind := .primitive 'C', accessFlags := 0x411 }
/-- [C -/
def k20 : Class := { plain "[C" (some 0) with kind := .array 19 .char, interfaces := #[16, 2], accessFlags := 1041 }

/-- the primitive int -/
def k21 : Class := { plain "int" none with kind := .primitive 'I', accessFlags := 0x411 }
/-- [I -/
def k22 : Class := { plain "[I" (some 0) with kind := .array 21 .int, interfaces := #[16, 2], accessFlags := 1041 }

def heap : Heap := #[{ cls := 7, slots := #[.long 0, .int 1, .null, .int 0, .null, .int 0, .int 0], vm := .statics 7 },
  { cls := 8, slots := #[.int 0, .int 8, .int 0, .int 1], vm := .statics 8 },
  { cls := 12, slots := #[.null, .ref 4, .null, .null], vm := .statics 12 },
  { cls := 14, slots := #[.null, .null, .null], vm := .statics 14 },
  { cls := 12, slots := #[.null, .int 1, .int 0], vm := .none }]
def classes : Array Class := #[k0, k1, k2, k3, k4, k5, k6, k7, k8, k9, k10, k11, k12, k13, k14, k15, k16, k17, k18, k19, k20, k21, k22]
def interned : List (Array UInt16 × Addr) := []
def slotsUsed : Nat := 21
def theMethod : MethodId := ⟨1, 1⟩
def args0 : Array Value := #[.int 2, .int 65, .int 66, .int 300, .int 4]
def aboutOver (below : List Frame) : State where
  vm := { classes := classes, interned := interned.toArray }
  heap := heap
  slotsUsed := slotsUsed
  threads := #[{ frames := .invoking theMethod args0 :: below }]
def below0 : List Frame := [.native { method := ⟨0, 0⟩, args := #[] }]
def about1 : State := aboutOver below0
def p0 : Program := .bare "" "" ""
def e0 : Env := launch0.env 0 0 0
theorem w_frames : about1.frames = Frame.invoking theMethod args0 :: below0 := rfl
set_option maxRecDepth 65536 in
theorem w_args : argsFit about1.vm theMethod args0 = true := by decide +kernel
set_option maxRecDepth 65536 in
theorem w_heap : heapFits about1 = true := by decide +kernel
set_option maxRecDepth 65536 in
theorem w_runnable : about1.curStatus? = some .runnable := by decide +kernel
set_option maxRecDepth 65536 in
theorem w_alone : about1.alone = true := by decide +kernel
set_option maxRecDepth 65536 in
theorem w_named : about1.methodNamed? x = some theMethod := by decide +kernel
set_option maxRecDepth 65536 in
theorem w_hears : about1.hears theMethod below0 = true := by decide +kernel
set_option maxRecDepth 65536 in
theorem w_ripe : about1.ripe theMethod args0 below0 = true := by decide +kernel
theorem w_running : about1.status = .running := rfl
set_option maxRecDepth 65536 in
theorem w_room : about1.hasRoom e0.platform room_1 = true :=
  launch0.hasRoom_least _ room_1 (by decide +kernel) (by decide +kernel) (by decide +kernel) (by decide +kernel) (by decide +kernel) (by decide +kernel)
theorem allAtoms_all (ts : List Jvm.Cond) (a : Array Jvm.Value) (st : Jvm.State) : (allAtoms ts).before a st = ts.all (fun c => c.before a st) := by
  induction ts with
  | nil => rfl
  | cons c t ih =>
    show (Jvm.Cond.and c (allAtoms t)).before a st = _
    rw [Jvm.Cond.before_and, ih, List.all_cons]
def words1 : List Jvm.Cond := Jvm.Cond.code x code maxLocals ret :: tables_1
/-- a 'code' word, met by the world's own term for the bytes: nothing is compared byte by byte -/
theorem code_word {y : MethodName} {bytes : ByteArray} {mx : Nat} {rt : Option FieldType} {a : Array Value} {s : State} {m : MethodId} {meth : Method} {c : Code} (h1 : s.methodNamed? y = some m) (h2 : s.vm.method? m = some meth) (h3 : meth.code = some c) (h4 : c.code = bytes)
    (h5 : (c.maxLocals == mx && c.exceptionTable.isEmpty && decide (c.maxStack ≤ mostOperands) && decide (meth.sig.returnType = rt) && !meth.locks && decide (parseMethodDescriptor y.desc = some meth.sig)) = true) : (Jvm.Cond.code y bytes mx rt).before a s = true := by
  simp only [Bool.and_eq_true, beq_iff_eq, Bool.not_eq_true', decide_eq_true_eq] at h5
  obtain ⟨⟨⟨⟨⟨g1, g2⟩, g3⟩, g4⟩, g5⟩, g6⟩ := h5
  simp [Cond.before, Cond.holds, Cond.value, h1, h2, h3, h4, g1, g2, g3, g4, g5, g6]
def isCode : Jvm.Cond → Bool
  | .code _ _ _ _ => true
  | _ => false
theorem all_split {L : List Jvm.Cond} {P : Jvm.Cond → Bool} (h1 : L.all (fun c => isCode c || P c) = true) (h2 : ∀ c ∈ L.filter isCode, P c = true) : L.all P = true := by
  refine List.all_eq_true.mpr fun c hc => ?_
  have h := List.all_eq_true.mp h1 c hc
  rcases Bool.eq_false_or_eq_true (isCode c) with hi | hi
  · exact h2 c (List.mem_filter.mpr ⟨hc, hi⟩)
  · simpa [hi] using h
set_option maxRecDepth 65536 in
theorem w_c0 : (Jvm.Cond.code x code maxLocals ret).before args0 about1 = true := code_word (m := ⟨1, 1⟩) (meth := k1m1) (c := k1c1) (by decide +kernel) rfl rfl rfl (by decide +kernel)
set_option maxRecDepth 65536 in
theorem w_c1 : (Jvm.Cond.code ({ cls := "java/lang/String", name := "<init>", desc := "([C)V" } : Jvm.MethodName) jdk_42_method_3_code (2 : Nat) (Option.none : Option Jvm.ClassFile.FieldType)).before args0 about1 = true := code_word (m := ⟨7, 1⟩) (meth := k7m1) (c := k7c1) (by decide +kernel) rfl rfl rfl (by decide +kernel)
set_option maxRecDepth 65536 in
theorem w_c2 : (Jvm.Cond.code ({ cls := "java/lang/String", name := "<init>", desc := "([CIILjava/lang/Void;)V" } : Jvm.MethodName) jdk_42_method_149_code (6 : Nat) (Option.none : Option Jvm.ClassFile.FieldType)).before args0 about1 = true := code_word (m := ⟨7, 6⟩) (meth := k7m6) (c := k7c6) (by decide +kernel) rfl rfl rfl (by decide +kernel)
set_option maxRecDepth 65536 in
theorem w_c3 : (Jvm.Cond.code ({ cls := "java/lang/Object", name := "<init>", desc := "()V" } : Jvm.MethodName) object_method_1_code (1 : Nat) (Option.none : Option Jvm.ClassFile.FieldType)).before args0 about1 = true := code_word (m := ⟨0, 0⟩) (meth := k0m0) (c := k0c0) (by decide +kernel) rfl rfl rfl (by decide +kernel)
set_option maxRecDepth 65536 in
theorem w_c4 : (Jvm.Cond.code ({ cls := "java/lang/StringUTF16", name := "compress", desc := "([CII)[B" } : Jvm.MethodName) jdk_52_method_16_code (6 : Nat) (Option.some (Jvm.ClassFile.FieldType.array Jvm.ClassFile.FieldType.byte))).before args0 about1 = true := code_word (m := ⟨8, 8⟩) (meth := k8m8) (c := k8c8) (by decide +kernel) rfl rfl rfl (by decide +kernel)
set_option maxRecDepth 65536 in
theorem w_c5 : (Jvm.Cond.code ({ cls := "java/lang/StringUTF16", name := "compress", desc := "([CI[BII)I" } : Jvm.MethodName) jdk_52_method_21_code (7 : Nat) (Option.some Jvm.ClassFile.FieldType.int)).before args0 about1 = true := code_word (m := ⟨8, 9⟩) (meth := k8m9) (c := k8c9) (by decide +kernel) rfl rfl rfl (by decide +kernel)
set_option maxRecDepth 65536 in
theorem w_c6 : (Jvm.Cond.code ({ cls := "java/lang/StringUTF16", name := "coderFromArrayLen", desc := "([BI)B" } : Jvm.MethodName) jdk_52_method_15_code (2 : Nat) (Option.some Jvm.ClassFile.FieldType.byte)).before args0 about1 = true := code_word (m := ⟨8, 7⟩) (meth := k8m7) (c := k8c7) (by decide +kernel) rfl rfl rfl (by decide +kernel)
set_option maxRecDepth 65536 in
theorem w_c7 : (Jvm.Cond.code ({ cls := "com/example/goneish/goneish/Identifier", name := "exact", desc := "(Ljava/lang/String;)Lcom/example/goneish/goneish/Identifier;" } : Jvm.MethodName) prog_5_method_4_code (1 : Nat) (Option.some (Jvm.ClassFile.FieldType.object "com/example/goneish/goneish/Identifier"))).before args0 about1 = true := code_word (m := ⟨9, 1⟩) (meth := k9m1) (c := k9c1) (by decide +kernel) rfl rfl rfl (by decide +kernel)
set_option maxRecDepth 65536 in
theorem w_c8 : (Jvm.Cond.code ({ cls := "java/util/Objects", name := "requireNonNull", desc := "(Ljava/lang/Object;Ljava/lang/String;)Ljava/lang/Object;" } : Jvm.MethodName) jdk_31_method_11_code (2 : Nat) (Option.some (Jvm.ClassFile.FieldType.object "java/lang/Object"))).before args0 about1 = true := code_word (m := ⟨10, 1⟩) (meth := k10m1) (c := k10c1) (by decide +kernel) rfl rfl rfl (by decide +kernel)
set_option maxRecDepth 65536 in
theorem w_c9 : (Jvm.Cond.code ({ cls := "java/lang/String", name := "isEmpty", desc := "()Z" } : Jvm.MethodName) jdk_42_method_55_code (1 : Nat) (Option.some Jvm.ClassFile.FieldType.boolean)).before args0 about1 = true := code_word (m := ⟨7, 3⟩) (meth := k7m3) (c := k7c3) (by decide +kernel) rfl rfl rfl (by decide +kernel)
set_option maxRecDepth 65536 in
theorem w_c10 : (Jvm.Cond.code ({ cls := "com/example/goneish/goneish/Identifier", name := "<init>", desc := "(Ljava/lang/String;Lcom/example/goneish/goneish/Identifier$Quoting;)V" } : Jvm.MethodName) prog_5_method_1_code (3 : Nat) (Option.none : Option Jvm.ClassFile.FieldType)).before args0 about1 = true := code_word (m := ⟨9, 0⟩) (meth := k9m0) (c := k9c0) (by decide +kernel) rfl rfl rfl (by decide +kernel)
set_option maxRecDepth 65536 in
theorem w_c11 : (Jvm.Cond.code ({ cls := "com/example/goneish/goneish/Identifier", name := "text", desc := "()Ljava/lang/String;" } : Jvm.MethodName) prog_5_method_6_code (1 : Nat) (Option.some (Jvm.ClassFile.FieldType.object "java/lang/String"))).before args0 about1 = true := code_word (m := ⟨9, 2⟩) (meth := k9m2) (c := k9c2) (by decide +kernel) rfl rfl rfl (by decide +kernel)
set_option maxRecDepth 65536 in
theorem w_c12 : (Jvm.Cond.code ({ cls := "java/lang/String", name := "length", desc := "()I" } : Jvm.MethodName) jdk_42_method_54_code (1 : Nat) (Option.some Jvm.ClassFile.FieldType.int)).before args0 about1 = true := code_word (m := ⟨7, 2⟩) (meth := k7m2) (c := k7c2) (by decide +kernel) rfl rfl rfl (by decide +kernel)
set_option maxRecDepth 65536 in
theorem w_c13 : (Jvm.Cond.code ({ cls := "java/lang/String", name := "coder", desc := "()B" } : Jvm.MethodName) jdk_42_method_152_code (1 : Nat) (Option.some Jvm.ClassFile.FieldType.byte)).before args0 about1 = true := code_word (m := ⟨7, 7⟩) (meth := k7m7) (c := k7c7) (by decide +kernel) rfl rfl rfl (by decide +kernel)
set_option maxRecDepth 65536 in
theorem w_c14 : (Jvm.Cond.code ({ cls := "java/lang/String", name := "charAt", desc := "(I)C" } : Jvm.MethodName) jdk_42_method_56_code (2 : Nat) (Option.some Jvm.ClassFile.FieldType.char)).before args0 about1 = true := code_word (m := ⟨7, 4⟩) (meth := k7m4) (c := k7c4) (by decide +kernel) rfl rfl rfl (by decide +kernel)
set_option maxRecDepth 65536 in
theorem w_c15 : (Jvm.Cond.code ({ cls := "java/lang/String", name := "isLatin1", desc := "()Z" } : Jvm.MethodName) jdk_42_method_154_code (1 : Nat) (Option.some Jvm.ClassFile.FieldType.boolean)).before args0 about1 = true := code_word (m := ⟨7, 8⟩) (meth := k7m8) (c := k7c8) (by decide +kernel) rfl rfl rfl (by decide +kernel)
set_option maxRecDepth 65536 in
theorem w_c16 : (Jvm.Cond.code ({ cls := "java/lang/StringLatin1", name := "charAt", desc := "([BI)C" } : Jvm.MethodName) jdk_43_method_2_code (2 : Nat) (Option.some Jvm.ClassFile.FieldType.char)).before args0 about1 = true := code_word (m := ⟨13, 1⟩) (meth := k13m1) (c := k13c1) (by decide +kernel) rfl rfl rfl (by decide +kernel)
set_option maxRecDepth 65536 in
theorem w_c17 : (Jvm.Cond.code ({ cls := "java/lang/String", name := "checkIndex", desc := "(II)V" } : Jvm.MethodName) jdk_42_method_155_code (2 : Nat) (Option.none : Option Jvm.ClassFile.FieldType)).before args0 about1 = true := code_word (m := ⟨7, 9⟩) (meth := k7m9) (c := k7c9) (by decide +kernel) rfl rfl rfl (by decide +kernel)
set_option maxRecDepth 65536 in
theorem w_c18 : (Jvm.Cond.code ({ cls := "jdk/internal/util/Preconditions", name := "checkIndex", desc := "(IILjava/util/function/BiFunction;)I" } : Jvm.MethodName) jdk_41_method_11_code (3 : Nat) (Option.some Jvm.ClassFile.FieldType.int)).before args0 about1 = true := code_word (m := ⟨14, 1⟩) (meth := k14m1) (c := k14c1) (by decide +kernel) rfl rfl rfl (by decide +kernel)
set_option maxRecDepth 65536 in
theorem w_c19 : (Jvm.Cond.code ({ cls := "java/lang/String", name := "equals", desc := "(Ljava/lang/Object;)Z" } : Jvm.MethodName) jdk_42_method_66_code (3 : Nat) (Option.some Jvm.ClassFile.FieldType.boolean)).before args0 about1 = true := code_word (m := ⟨7, 5⟩) (meth := k7m5) (c := k7c5) (by decide +kernel) rfl rfl rfl (by decide +kernel)
set_option maxRecDepth 65536 in
theorem w_c20 : (Jvm.Cond.code ({ cls := "com/example/goneish/goneish/Identifier", name := "quoting", desc := "()Lcom/example/goneish/goneish/Identifier$Quoting;" } : Jvm.MethodName) prog_5_method_7_code (1 : Nat) (Option.some (Jvm.ClassFile.FieldType.object "com/example/goneish/goneish/Identifier$Quoting"))).before args0 about1 = true := code_word (m := ⟨9, 3⟩) (meth := k9m3) (c := k9c3) (by decide +kernel) rfl rfl rfl (by decide +kernel)
set_option maxRecDepth 65536 in
theorem w_c21 : (Jvm.Cond.code ({ cls := "java/lang/StringUTF16", name := "toBytes", desc := "([CII)[B" } : Jvm.MethodName) jdk_52_method_14_code (5 : Nat) (Option.some (Jvm.ClassFile.FieldType.array Jvm.ClassFile.FieldType.byte))).before args0 about1 = true := code_word (m := ⟨8, 6⟩) (meth := k8m6) (c := k8c6) (by decide +kernel) rfl rfl rfl (by decide +kernel)
set_option maxRecDepth 65536 in
theorem w_c22 : (Jvm.Cond.code ({ cls := "java/lang/StringUTF16", name := "newBytesFor", desc := "(I)[B" } : Jvm.MethodName) jdk_52_method_2_code (1 : Nat) (Option.some (Jvm.ClassFile.FieldType.array Jvm.ClassFile.FieldType.byte))).before args0 about1 = true := code_word (m := ⟨8, 1⟩) (meth := k8m1) (c := k8c1) (by decide +kernel) rfl rfl rfl (by decide +kernel)
set_option maxRecDepth 65536 in
theorem w_c23 : (Jvm.Cond.code ({ cls := "java/lang/StringUTF16", name := "newBytesLength", desc := "(I)I" } : Jvm.MethodName) jdk_52_method_3_code (1 : Nat) (Option.some Jvm.ClassFile.FieldType.int)).before args0 about1 = true := code_word (m := ⟨8, 2⟩) (meth := k8m2) (c := k8c2) (by decide +kernel) rfl rfl rfl (by decide +kernel)
set_option maxRecDepth 65536 in
theorem w_c24 : (Jvm.Cond.code ({ cls := "java/lang/StringUTF16", name := "putChar", desc := "([BII)V" } : Jvm.MethodName) jdk_52_method_4_code (3 : Nat) (Option.none : Option Jvm.ClassFile.FieldType)).before args0 about1 = true := code_word (m := ⟨8, 3⟩) (meth := k8m3) (c := k8c3) (by decide +kernel) rfl rfl rfl (by decide +kernel)
set_option maxRecDepth 65536 in
theorem w_c25 : (Jvm.Cond.code ({ cls := "java/lang/StringUTF16", name := "getChar", desc := "([BI)C" } : Jvm.MethodName) jdk_52_method_5_code (2 : Nat) (Option.some Jvm.ClassFile.FieldType.char)).before args0 about1 = true := code_word (m := ⟨8, 4⟩) (meth := k8m4) (c := k8c4) (by decide +kernel) rfl rfl rfl (by decide +kernel)
set_option maxRecDepth 65536 in
theorem w_c26 : (Jvm.Cond.code ({ cls := "java/lang/StringUTF16", name := "charAt", desc := "([BI)C" } : Jvm.MethodName) jdk_52_method_83_code (2 : Nat) (Option.some Jvm.ClassFile.FieldType.char)).before args0 about1 = true := code_word (m := ⟨8, 10⟩) (meth := k8m10) (c := k8c10) (by decide +kernel) rfl rfl rfl (by decide +kernel)
set_option maxRecDepth 65536 in
theorem w_c27 : (Jvm.Cond.code ({ cls := "java/lang/StringUTF16", name := "checkIndex", desc := "(I[B)V" } : Jvm.MethodName) jdk_52_method_91_code (2 : Nat) (Option.none : Option Jvm.ClassFile.FieldType)).before args0 about1 = true := code_word (m := ⟨8, 11⟩) (meth := k8m11) (c := k8c11) (by decide +kernel) rfl rfl rfl (by decide +kernel)
set_option maxRecDepth 65536 in
theorem w_c28 : (Jvm.Cond.code ({ cls := "java/lang/StringUTF16", name := "length", desc := "([B)I" } : Jvm.MethodName) jdk_52_method_6_code (1 : Nat) (Option.some Jvm.ClassFile.FieldType.int)).before args0 about1 = true := code_word (m := ⟨8, 5⟩) (meth := k8m5) (c := k8c5) (by decide +kernel) rfl rfl rfl (by decide +kernel)
def codes1 : List Jvm.Cond := [Jvm.Cond.code x code maxLocals ret, Jvm.Cond.code ({ cls := "java/lang/String", name := "<init>", desc := "([C)V" } : Jvm.MethodName) jdk_42_method_3_code (2 : Nat) (Option.none : Option Jvm.ClassFile.FieldType), Jvm.Cond.code ({ cls := "java/lang/String", name := "<init>", desc := "([CIILjava/lang/Void;)V" } : Jvm.MethodName) jdk_42_method_149_code (6 : Nat) (Option.none : Option Jvm.ClassFile.FieldType), Jvm.Cond.code ({ cls := "java/lang/Object", name := "<init>", desc := "()V" } : Jvm.MethodName) object_method_1_code (1 : Nat) (Option.none : Option Jvm.ClassFile.FieldType), Jvm.Cond.code ({ cls := "java/lang/StringUTF16", name := "compress", desc := "([CII)[B" } : Jvm.MethodName) jdk_52_method_16_code (6 : Nat) (Option.some (Jvm.ClassFile.FieldType.array Jvm.ClassFile.FieldType.byte)), Jvm.Cond.code ({ cls := "java/lang/StringUTF16", name := "compress", desc := "([CI[BII)I" } : Jvm.MethodName) jdk_52_method_21_code (7 : Nat) (Option.some Jvm.ClassFile.FieldType.int), Jvm.Cond.code ({ cls := "java/lang/StringUTF16", name := "coderFromArrayLen", desc := "([BI)B" } : Jvm.MethodName) jdk_52_method_15_code (2 : Nat) (Option.some Jvm.ClassFile.FieldType.byte), Jvm.Cond.code ({ cls := "com/example/goneish/goneish/Identifier", name := "exact", desc := "(Ljava/lang/String;)Lcom/example/goneish/goneish/Identifier;" } : Jvm.MethodName) prog_5_method_4_code (1 : Nat) (Option.some (Jvm.ClassFile.FieldType.object "com/example/goneish/goneish/Identifier")), Jvm.Cond.code ({ cls := "java/util/Objects", name := "requireNonNull", desc := "(Ljava/lang/Object;Ljava/lang/String;)Ljava/lang/Object;" } : Jvm.MethodName) jdk_31_method_11_code (2 : Nat) (Option.some (Jvm.ClassFile.FieldType.object "java/lang/Object")), Jvm.Cond.code ({ cls := "java/lang/String", name := "isEmpty", desc := "()Z" } : Jvm.MethodName) jdk_42_method_55_code (1 : Nat) (Option.some Jvm.ClassFile.FieldType.boolean), Jvm.Cond.code ({ cls := "com/example/goneish/goneish/Identifier", name := "<init>", desc := "(Ljava/lang/String;Lcom/example/goneish/goneish/Identifier$Quoting;)V" } : Jvm.MethodName) prog_5_method_1_code (3 : Nat) (Option.none : Option Jvm.ClassFile.FieldType), Jvm.Cond.code ({ cls := "com/example/goneish/goneish/Identifier", name := "text", desc := "()Ljava/lang/String;" } : Jvm.MethodName) prog_5_method_6_code (1 : Nat) (Option.some (Jvm.ClassFile.FieldType.object "java/lang/String")), Jvm.Cond.code ({ cls := "java/lang/String", name := "length", desc := "()I" } : Jvm.MethodName) jdk_42_method_54_code (1 : Nat) (Option.some Jvm.ClassFile.FieldType.int), Jvm.Cond.code ({ cls := "java/lang/String", name := "coder", desc := "()B" } : Jvm.MethodName) jdk_42_method_152_code (1 : Nat) (Option.some Jvm.ClassFile.FieldType.byte), Jvm.Cond.code ({ cls := "java/lang/String", name := "charAt", desc := "(I)C" } : Jvm.MethodName) jdk_42_method_56_code (2 : Nat) (Option.some Jvm.ClassFile.FieldType.char), Jvm.Cond.code ({ cls := "java/lang/String", name := "isLatin1", desc := "()Z" } : Jvm.MethodName) jdk_42_method_154_code (1 : Nat) (Option.some Jvm.ClassFile.FieldType.boolean), Jvm.Cond.code ({ cls := "java/lang/StringLatin1", name := "charAt", desc := "([BI)C" } : Jvm.MethodName) jdk_43_method_2_code (2 : Nat) (Option.some Jvm.ClassFile.FieldType.char), Jvm.Cond.code ({ cls := "java/lang/String", name := "checkIndex", desc := "(II)V" } : Jvm.MethodName) jdk_42_method_155_code (2 : Nat) (Option.none : Option Jvm.ClassFile.FieldType), Jvm.Cond.code ({ cls := "jdk/internal/util/Preconditions", name := "checkIndex", desc := "(IILjava/util/function/BiFunction;)I" } : Jvm.MethodName) jdk_41_method_11_code (3 : Nat) (Option.some Jvm.ClassFile.FieldType.int), Jvm.Cond.code ({ cls := "java/lang/String", name := "equals", desc := "(Ljava/lang/Object;)Z" } : Jvm.MethodName) jdk_42_method_66_code (3 : Nat) (Option.some Jvm.ClassFile.FieldType.boolean), Jvm.Cond.code ({ cls := "com/example/goneish/goneish/Identifier", name := "quoting", desc := "()Lcom/example/goneish/goneish/Identifier$Quoting;" } : Jvm.MethodName) prog_5_method_7_code (1 : Nat) (Option.some (Jvm.ClassFile.FieldType.object "com/example/goneish/goneish/Identifier$Quoting")), Jvm.Cond.code ({ cls := "java/lang/StringUTF16", name := "toBytes", desc := "([CII)[B" } : Jvm.MethodName) jdk_52_method_14_code (5 : Nat) (Option.some (Jvm.ClassFile.FieldType.array Jvm.ClassFile.FieldType.byte)), Jvm.Cond.code ({ cls := "java/lang/StringUTF16", name := "newBytesFor", desc := "(I)[B" } : Jvm.MethodName) jdk_52_method_2_code (1 : Nat) (Option.some (Jvm.ClassFile.FieldType.array Jvm.ClassFile.FieldType.byte)), Jvm.Cond.code ({ cls := "java/lang/StringUTF16", name := "newBytesLength", desc := "(I)I" } : Jvm.MethodName) jdk_52_method_3_code (1 : Nat) (Option.some Jvm.ClassFile.FieldType.int), Jvm.Cond.code ({ cls := "java/lang/StringUTF16", name := "putChar", desc := "([BII)V" } : Jvm.MethodName) jdk_52_method_4_code (3 : Nat) (Option.none : Option Jvm.ClassFile.FieldType), Jvm.Cond.code ({ cls := "java/lang/StringUTF16", name := "getChar", desc := "([BI)C" } : Jvm.MethodName) jdk_52_method_5_code (2 : Nat) (Option.some Jvm.ClassFile.FieldType.char), Jvm.Cond.code ({ cls := "java/lang/StringUTF16", name := "charAt", desc := "([BI)C" } : Jvm.MethodName) jdk_52_method_83_code (2 : Nat) (Option.some Jvm.ClassFile.FieldType.char), Jvm.Cond.code ({ cls := "java/lang/StringUTF16", name := "checkIndex", desc := "(I[B)V" } : Jvm.MethodName) jdk_52_method_91_code (2 : Nat) (Option.none : Option Jvm.ClassFile.FieldType), Jvm.Cond.code ({ cls := "java/lang/StringUTF16", name := "length", desc := "([B)I" } : Jvm.MethodName) jdk_52_method_6_code (1 : Nat) (Option.some Jvm.ClassFile.FieldType.int)]
set_option maxRecDepth 65536 in
theorem codes_eq : words1.filter isCode = codes1 := rfl
theorem w_codes : ∀ c ∈ words1.filter isCode, c.before args0 about1 = true := by
  rw [codes_eq]
  intro c hc
  simp only [codes1, List.mem_cons, List.not_mem_nil, or_false] at hc
  rcases hc with rfl | rfl | rfl | rfl | rfl | rfl | rfl | rfl | rfl | rfl | rfl | rfl | rfl | rfl | rfl | rfl | rfl | rfl | rfl | rfl | rfl | rfl | rfl | rfl | rfl | rfl | rfl | rfl | rfl
  · exact w_c0
  · exact w_c1
  · exact w_c2
  · exact w_c3
  · exact w_c4
  · exact w_c5
  · exact w_c6
  · exact w_c7
  · exact w_c8
  · exact w_c9
  · exact w_c10
  · exact w_c11
  · exact w_c12
  · exact w_c13
  · exact w_c14
  · exact w_c15
  · exact w_c16
  · exact w_c17
  · exact w_c18
  · exact w_c19
  · exact w_c20
  · exact w_c21
  · exact w_c22
  · exact w_c23
  · exact w_c24
  · exact w_c25
  · exact w_c26
  · exact w_c27
  · exact w_c28
set_option maxRecDepth 65536 in
theorem w_t1 : (words1.take 24).all (fun c => isCode c || c.before args0 about1) = true := by decide +kernel
set_option maxRecDepth 65536 in
theorem w_t2 : ((words1.drop 24).take 24).all (fun c => isCode c || c.before args0 about1) = true := by decide +kernel
set_option maxRecDepth 65536 in
theorem w_t3 : (((words1.drop 24).drop 24).take 24).all (fun c => isCode c || c.before args0 about1) = true := by decide +kernel
set_option maxRecDepth 65536 in
theorem w_t4 : ((((words1.drop 24).drop 24).drop 24).take 24).all (fun c => isCode c || c.before args0 about1) = true := by decide +kernel
set_option maxRecDepth 65536 in
theorem w_t5 : (((((words1.drop 24).drop 24).drop 24).drop 24).take 24).all (fun c => isCode c || c.before args0 about1) = true := by decide +kernel
set_option maxRecDepth 65536 in
theorem w_t6 : (((((words1.drop 24).drop 24).drop 24).drop 24).drop 24).all (fun c => isCode c || c.before args0 about1) = true := by decide +kernel
theorem w_tables : (allAtoms (Jvm.Cond.code x code maxLocals ret :: tables_1)).before args0 about1 = true := by
  rw [allAtoms_all]
  show words1.all (fun c => c.before args0 about1) = true
  refine all_split ?_ w_codes
  rw [← List.take_append_drop 24 words1, List.all_append, w_t1, ← List.take_append_drop 24 (words1.drop 24), List.all_append, w_t2, ← List.take_append_drop 24 ((words1.drop 24).drop 24), List.all_append, w_t3, ← List.take_append_drop 24 (((words1.drop 24).drop 24).drop 24), List.all_append, w_t4, ← List.take_append_drop 24 ((((words1.drop 24).drop 24).drop 24).drop 24), List.all_append, w_t5, w_t6]
  rfl
set_option maxRecDepth 65536 in
theorem w_rest : rest_1_c.before args0 about1 = true := by decide +kernel
set_option maxRecDepth 65536 in
theorem w_case : (Jvm.Cond.and given_1 narrow_1).before args0 about1 = true := by decide +kernel
theorem w_applies : (headSpec (Jvm.Cond.code x code maxLocals ret :: tables_1) room_1).applies x e0.platform about1 = true :=
  (Spec.applies_iff w_frames).mpr ⟨w_running, w_runnable, w_alone, w_named, w_hears, w_ripe, w_room, w_tables⟩
theorem atStart : AtStart classFile x code maxLocals ret World_1 tables_1 room_1 Calls_1 rest_1 Pre_1 launch0 p0 e0 about1 theMethod args0 below0 :=
  ⟨lists_1, trivial, launch0.admits_env _ _ _, launch0.least_env, fairChoices_fair.cas, fairChoices_fair.clock, w_frames, w_args, w_heap, w_applies, trivial, w_rest, w_case⟩
end start1
theorem witness_1 : WitnessClaimed_1 := ⟨start1.p0, start1.e0, start1.about1, start1.theMethod, start1.args0, start1.below0, start1.atStart⟩
end Jvm.Pilot.@@N@@
