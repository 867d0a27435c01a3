import JvmDerived
import JvmDerived.Pilot.@@N@@Statement
import JvmDerived.Pilot.@@N@@Code
set_option linter.unusedVariables false
set_option linter.unusedSimpArgs false
namespace Jvm.Pilot.@@N@@
open Jvm Jvm.ClassFile Sem Op Lib Jvm.Free Jvm.Stand Jvm.LawKit Jvm.RoadKit Bundle Jvm.Pilot.@@N@@.Jvm.D
/-! THE WALK, SAID FORWARD: `G w Q h k n pc Ls st` says: from every point of the walk `w` whose heap is h, with k cells and n slots made, standing at pc with the locals Ls and the stack st, the run ends in a return that meets Q. One law a step carries G from the next point back to this one. -/
abbrev Wk := Program × Launch × Env × Room × State × MethodId × Array Value × List Frame × Method × Code × Nat × (Outcome → State → List Loc → Prop)
abbrev Wk.p (w : Wk) : Program := w.1
abbrev Wk.l (w : Wk) : Launch := w.2.1
abbrev Wk.e (w : Wk) : Env := w.2.2.1
abbrev Wk.R (w : Wk) : Room := w.2.2.2.1
abbrev Wk.s (w : Wk) : State := w.2.2.2.2.1
abbrev Wk.m (w : Wk) : MethodId := w.2.2.2.2.2.1
abbrev Wk.args (w : Wk) : Array Value := w.2.2.2.2.2.2.1
abbrev Wk.below (w : Wk) : List Frame := w.2.2.2.2.2.2.2.1
abbrev Wk.meth (w : Wk) : Method := w.2.2.2.2.2.2.2.2.1
abbrev Wk.c (w : Wk) : Code := w.2.2.2.2.2.2.2.2.2.1
abbrev Wk.n0 (w : Wk) : Nat := w.2.2.2.2.2.2.2.2.2.2.1
abbrev Wk.fin (w : Wk) : Outcome → State → List Loc → Prop := w.2.2.2.2.2.2.2.2.2.2.2
def Cx (w : Wk) (l : Launch) (Z : State) (own : String) (bytes : ByteArray) (mx : Nat) (rt : Option FieldType) (nm : String) (rm : Room) (n0 : Nat) : Prop :=
  w.l = l ∧ w.p.tables.exec = Jvm.exec ∧ Z.Warmed39 w.s.vm ∧ w.c.code = bytes ∧ w.c.maxLocals = mx ∧ w.s.vm.findClass own = some w.m.cls ∧ w.meth.sig.returnType = rt ∧ w.meth.locks = false ∧ w.meth.name = nm ∧ w.R = rm ∧ w.n0 = n0 ∧ (∀ o t L, FrameEnd w.s o t L w.R.cells w.R.slots → w.fin o t L)
def Ends (w : Wk) (Q : Option Value → Heap → Prop) (A : State) : Prop :=
  ∃ s₂ o, Steps w.p.tables w.e w.below A s₂ ∧ s₂.status = .running ∧ Ended s₂ w.below o ∧ ∃ v L, o = .returned v ∧ (Q v s₂.heap ∧ Fr w.n0 L) ∧ w.fin o s₂ L
def G (w : Wk) (Q : Option Value → Heap → Prop) (h : Heap) (k n pc : Nat) (Ls : Array Slot) (st : List Value) : Prop :=
  ∀ (T : State) (locs : List Loc), Stand w.p w.l w.e w.R w.s w.m w.args w.below w.meth w.c T locs k n → T.heap = h → Fr w.n0 locs → Ends w Q (T.setTop (mkF w.m pc Ls st))
def Con (l : Launch) (Z : State) (y : MethodName) (bytes : ByteArray) (mx : Nat) (rt : Option FieldType) (rm : Room) (as : Array Value) (h : Heap) (n0 : Nat) (Q : Option Value → Heap → Prop) : Prop :=
  ∀ ws, MetFree l y (head1 (Jvm.Cond.code y bytes mx rt :: ws) rm) (fun a U => a = as ∧ Z.Warmed39 U.vm ∧ U.heap = h) (fun _ _ _ _ _ => True) (fun _ U o U' => ∃ v L, o = .returned v ∧ (Q v U'.heap ∧ Fr n0 L) ∧ FrameEnd U o U' L rm.cells rm.slots)
def psh (v : Option Value) (st : List Value) : List Value := match v with | none => st | some x => x :: st
theorem psh_eq (v : Option Value) (st : List Value) : v.toList ++ st = psh v st := by cases v <;> rfl
section Gs
variable {w : Wk} {l : Launch} {Z : State} {own : String} {bytes : ByteArray} {mx : Nat} {rt : Option FieldType} {nm : String} {rm : Room} {n0 : Nat} {Q : Option Value → Heap → Prop} {h : Heap} {k n pc pc' : Nat} {Ls Ls' : Array Slot} {st rest : List Value} {a0 : Array Value} {t : FieldType} {k' n' : Nat}
theorem Con.mk {y : MethodName} {as : Array Value} (hp : plainFor y = true) (hef : ∀ m, entryFrame m as mx = mkF m 0 Ls []) (body : ∀ w : Wk, Cx w l Z y.cls bytes mx rt y.name rm n0 → G w Q h 0 0 0 Ls []) : Con l Z y bytes mx rt rm as h n0 Q := by
  intro ws
  refine MetFree.of_bodySF hp hisR ?_
  intro p e s m args below meth c s₁ Bd hml0 hP hK
  obtain ⟨rfl, hZ, hh⟩ := hP
  have X0 : Stand p l e rm s m args below meth c s₁ [] 0 0 := Stand.of_body Bd
  have e0 : s₁.heap = h := by rw [← hh, Bd.state]; rfl
  obtain ⟨s₂, o, h1, h2, h3, h4⟩ := body (p, l, e, rm, s, m, args, below, meth, c, n0, fun o t L => FrameEnd s o t L rm.cells rm.slots) ⟨rfl, Bd.exec, hZ, Bd.bytes, hml0, findClass_of_methodNamed Bd.named, Bd.returns, Bd.notSynchronized, (name_of_methodNamed Bd.named Bd.method).1, rfl, rfl, fun _ _ _ q => q⟩ s₁ [] X0 e0 (Fr.nil n0)
  exact ⟨s₂, o, castTop (hef m) h1, h2, h3, h4⟩
theorem Cx.ex (C : Cx w l Z own bytes mx rt nm rm n0) : w.p.tables.exec = Jvm.exec := C.2.1
theorem Cx.hZ (C : Cx w l Z own bytes mx rt nm rm n0) : Z.Warmed39 w.s.vm := C.2.2.1
theorem Cx.dec (C : Cx w l Z own bytes mx rt nm rm n0) {r : Except DecodeError (Instr × Nat)} (hd : decode bytes pc = r) : decode w.c.code pc = r := hb C.2.2.2.1 hd
theorem Cx.ow (C : Cx w l Z own bytes mx rt nm rm n0) : w.s.vm.findClass own = some w.m.cls := C.2.2.2.2.2.1
theorem Cx.ml (C : Cx w l Z own bytes mx rt nm rm n0) : w.c.maxLocals = mx := C.2.2.2.2.1
theorem Cx.ret (C : Cx w l Z own bytes mx rt nm rm n0) : w.meth.sig.returnType = rt := C.2.2.2.2.2.2.1
theorem Cx.lk (C : Cx w l Z own bytes mx rt nm rm n0) : w.meth.locks = false := C.2.2.2.2.2.2.2.1
theorem Cx.mn (C : Cx w l Z own bytes mx rt nm rm n0) : w.meth.name = nm := C.2.2.2.2.2.2.2.2.1
theorem Cx.ro (C : Cx w l Z own bytes mx rt nm rm n0) : w.R = rm := C.2.2.2.2.2.2.2.2.2.1
theorem Cx.nn (C : Cx w l Z own bytes mx rt nm rm n0) : w.n0 = n0 := C.2.2.2.2.2.2.2.2.2.2.1
theorem Cx.fn (C : Cx w l Z own bytes mx rt nm rm n0) : ∀ o t L, FrameEnd w.s o t L w.R.cells w.R.slots → w.fin o t L := C.2.2.2.2.2.2.2.2.2.2.2
theorem G.adv (st' : ∀ T locs, Stand w.p w.l w.e w.R w.s w.m w.args w.below w.meth w.c T locs k n → T.heap = h → ∀ t, Steps w.p.tables w.e w.below (T.setTop (mkF w.m pc' Ls' rest)) t → Steps w.p.tables w.e w.below (T.setTop (mkF w.m pc Ls st)) t) (g : G w Q h k n pc' Ls' rest) : G w Q h k n pc Ls st :=
  fun T locs X eT N => let ⟨s₂, o, h1, h2⟩ := g T locs X eT N; ⟨s₂, o, st' T locs X eT _ h1, h2⟩
theorem G.to {T T' : State} {locs' : List Loc} {h' : Heap} {k' n' : Nat} (X' : Stand w.p w.l w.e w.R w.s w.m w.args w.below w.meth w.c T' locs' k' n') (eT : T'.heap = h') (N : Fr w.n0 locs') (s' : ∀ t, Steps w.p.tables w.e w.below (T'.setTop (mkF w.m pc' Ls' rest)) t → Steps w.p.tables w.e w.below (T.setTop (mkF w.m pc Ls st)) t) (g : G w Q h' k' n' pc' Ls' rest) : Ends w Q (T.setTop (mkF w.m pc Ls st)) :=
  let ⟨s₂, o, h1, h2⟩ := g T' locs' X' eT N; ⟨s₂, o, s' _ h1, h2⟩
theorem G.more (hk : k ≤ k') (hn : n ≤ n') (g : G w Q h k' n' pc Ls st) : G w Q h k n pc Ls st := fun T locs X eT N => g T locs (X.more hk hn) eT N
/-! plain steps -/
theorem g_aloadN (C : Cx w l Z own bytes mx rt nm rm n0) {i : Fin 4} {v : Value} (hd : decode bytes pc = .ok (.aload_n i, 1)) (hl : Ls[i.val]? = some (.val v)) (hv : v.isRef = true) (hp : pc + 1 = pc') (g : G w Q h k n pc' Ls (v :: st)) : G w Q h k n pc Ls st := by
  subst hp; exact g.adv fun T locs X _ t r => XS.aloadN X.here C.ex rfl (C.dec hd) hl hv r
theorem g_aload (C : Cx w l Z own bytes mx rt nm rm n0) {i : Nat} {v : Value} (hd : decode bytes pc = .ok (.aload i, 2)) (hl : Ls[i]? = some (.val v)) (hv : v.isRef = true) (hp : pc + 2 = pc') (g : G w Q h k n pc' Ls (v :: st)) : G w Q h k n pc Ls st := by
  subst hp; exact g.adv fun T locs X _ t r => XS.aload X.here C.ex rfl (C.dec hd) hl hv r
theorem g_iloadN (C : Cx w l Z own bytes mx rt nm rm n0) {i : Fin 4} {v : Int32} (hd : decode bytes pc = .ok (.iload_n i, 1)) (hl : Ls[i.val]? = some (.val (.int v))) (hp : pc + 1 = pc') (g : G w Q h k n pc' Ls (.int v :: st)) : G w Q h k n pc Ls st := by
  subst hp; exact g.adv fun T locs X _ t r => XS.iloadN X.here C.ex rfl (C.dec hd) hl r
theorem g_iload (C : Cx w l Z own bytes mx rt nm rm n0) {i : Nat} {v : Int32} (hd : decode bytes pc = .ok (.iload i, 2)) (hl : Ls[i]? = some (.val (.int v))) (hp : pc + 2 = pc') (g : G w Q h k n pc' Ls (.int v :: st)) : G w Q h k n pc Ls st := by
  subst hp; exact g.adv fun T locs X _ t r => XS.iload X.here C.ex rfl (C.dec hd) hl r
theorem g_lloadN (C : Cx w l Z own bytes mx rt nm rm n0) {i : Fin 4} {v : Int64} (hd : decode bytes pc = .ok (.lload_n i, 1)) (hl : Ls[i.val]? = some (.val (.long v))) (hp : pc + 1 = pc') (g : G w Q h k n pc' Ls (.long v :: st)) : G w Q h k n pc Ls st := by
  subst hp; exact g.adv fun T locs X _ t r => XS.lloadN X.here C.ex rfl (C.dec hd) hl r
theorem g_lload (C : Cx w l Z own bytes mx rt nm rm n0) {i : Nat} {v : Int64} (hd : decode bytes pc = .ok (.lload i, 2)) (hl : Ls[i]? = some (.val (.long v))) (hp : pc + 2 = pc') (g : G w Q h k n pc' Ls (.long v :: st)) : G w Q h k n pc Ls st := by
  subst hp; exact g.adv fun T locs X _ t r => XS.lload X.here C.ex rfl (C.dec hd) hl r
theorem g_istoreN (C : Cx w l Z own bytes mx rt nm rm n0) {i : Fin 4} {x : Int32} (hd : decode bytes pc = .ok (.istore_n i, 1)) (hs : st = .int x :: rest) (hl : storeLocals Ls i.val (.int x) = some Ls') (hp : pc + 1 = pc') (g : G w Q h k n pc' Ls' rest) : G w Q h k n pc Ls st := by
  subst hp; exact g.adv fun T locs X _ t r => XS.istoreN X.here C.ex rfl (C.dec hd) hs hl r
theorem g_istore (C : Cx w l Z own bytes mx rt nm rm n0) {i : Nat} {x : Int32} (hd : decode bytes pc = .ok (.istore i, 2)) (hs : st = .int x :: rest) (hl : storeLocals Ls i (.int x) = some Ls') (hp : pc + 2 = pc') (g : G w Q h k n pc' Ls' rest) : G w Q h k n pc Ls st := by
  subst hp; exact g.adv fun T locs X _ t r => XS.istore X.here C.ex rfl (C.dec hd) hs hl r
theorem g_lstoreN (C : Cx w l Z own bytes mx rt nm rm n0) {i : Fin 4} {x : Int64} (hd : decode bytes pc = .ok (.lstore_n i, 1)) (hs : st = .long x :: rest) (hl : storeLocals Ls i.val (.long x) = some Ls') (hp : pc + 1 = pc') (g : G w Q h k n pc' Ls' rest) : G w Q h k n pc Ls st := by
  subst hp; exact g.adv fun T locs X _ t r => XS.lstoreN X.here C.ex rfl (C.dec hd) hs hl r
theorem g_lstore (C : Cx w l Z own bytes mx rt nm rm n0) {i : Nat} {x : Int64} (hd : decode bytes pc = .ok (.lstore i, 2)) (hs : st = .long x :: rest) (hl : storeLocals Ls i (.long x) = some Ls') (hp : pc + 2 = pc') (g : G w Q h k n pc' Ls' rest) : G w Q h k n pc Ls st := by
  subst hp; exact g.adv fun T locs X _ t r => XS.lstore X.here C.ex rfl (C.dec hd) hs hl r
theorem g_astoreN (C : Cx w l Z own bytes mx rt nm rm n0) {i : Fin 4} {x : Value} (hd : decode bytes pc = .ok (.astore_n i, 1)) (hs : st = x :: rest) (hv : x.isRef = true) (hl : storeLocals Ls i.val x = some Ls') (hp : pc + 1 = pc') (g : G w Q h k n pc' Ls' rest) : G w Q h k n pc Ls st := by
  subst hp; exact g.adv fun T locs X _ t r => XS.astoreN X.here C.ex rfl (C.dec hd) hs hv hl r
theorem g_astore (C : Cx w l Z own bytes mx rt nm rm n0) {i : Nat} {x : Value} (hd : decode bytes pc = .ok (.astore i, 2)) (hs : st = x :: rest) (hv : x.isRef = true) (hl : storeLocals Ls i x = some Ls') (hp : pc + 2 = pc') (g : G w Q h k n pc' Ls' rest) : G w Q h k n pc Ls st := by
  subst hp; exact g.adv fun T locs X _ t r => XS.astore X.here C.ex rfl (C.dec hd) hs hv hl r
theorem g_iinc (C : Cx w l Z own bytes mx rt nm rm n0) {i : Nat} {cst : Int} {x : Int32} (hd : decode bytes pc = .ok (.iinc i cst, 3)) (hl : Ls[i]? = some (.val (.int x))) (hl' : storeLocals Ls i (.int (x + Int32.ofInt cst)) = some Ls') (hp : pc + 3 = pc') (g : G w Q h k n pc' Ls' st) : G w Q h k n pc Ls st := by
  subst hp; exact g.adv fun T locs X _ t r => XS.iinc X.here C.ex rfl (C.dec hd) hl hl' r
theorem g_iconst (C : Cx w l Z own bytes mx rt nm rm n0) {i : Int} {v : Int32} (hd : decode bytes pc = .ok (.iconst i, 1)) (hv : Int32.ofInt i = v) (hp : pc + 1 = pc') (g : G w Q h k n pc' Ls (.int v :: st)) : G w Q h k n pc Ls st := by
  subst hp hv; exact g.adv fun T locs X _ t r => XS.iconst X.here C.ex rfl (C.dec hd) r
theorem g_bipush (C : Cx w l Z own bytes mx rt nm rm n0) {i : Int} {v : Int32} (hd : decode bytes pc = .ok (.bipush i, 2)) (hv : (Int8.ofInt i).toInt32 = v) (hp : pc + 2 = pc') (g : G w Q h k n pc' Ls (.int v :: st)) : G w Q h k n pc Ls st := by
  subst hp hv; exact g.adv fun T locs X _ t r => XS.bipush X.here C.ex rfl (C.dec hd) r
theorem g_sipush (C : Cx w l Z own bytes mx rt nm rm n0) {i : Int} {v : Int32} (hd : decode bytes pc = .ok (.sipush i, 3)) (hv : (Int16.ofInt i).toInt32 = v) (hp : pc + 3 = pc') (g : G w Q h k n pc' Ls (.int v :: st)) : G w Q h k n pc Ls st := by
  subst hp hv; exact g.adv fun T locs X _ t r => XS.sipush X.here C.ex rfl (C.dec hd) r
theorem g_lconst (C : Cx w l Z own bytes mx rt nm rm n0) {i : Fin 2} {v : Int64} (hd : decode bytes pc = .ok (.lconst i, 1)) (hv : Int64.ofNat i.val = v) (hp : pc + 1 = pc') (g : G w Q h k n pc' Ls (.long v :: st)) : G w Q h k n pc Ls st := by
  subst hp hv; exact g.adv fun T locs X _ t r => XS.lconst X.here C.ex rfl (C.dec hd) r
theorem g_aconstNull (C : Cx w l Z own bytes mx rt nm rm n0) (hd : decode bytes pc = .ok (.aconst_null, 1)) (hp : pc + 1 = pc') (g : G w Q h k n pc' Ls (.null :: st)) : G w Q h k n pc Ls st := by
  subst hp; exact g.adv fun T locs X _ t r => XS.aconstNull X.here C.ex rfl (C.dec hd) r
theorem g_ldcInt (C : Cx w l Z own bytes mx rt nm rm n0) {i : Nat} {v : Int32} (hw : (Jvm.Cond.constant own i v).before a0 Z = true) (hd : decode bytes pc = .ok (.ldc i, 2)) (hp : pc + 2 = pc') (g : G w Q h k n pc' Ls (.int v :: st)) : G w Q h k n pc Ls st := by
  subst hp; exact g.adv fun T locs X _ t r => X.ldcInt C.ex C.ow (mvT C.hZ hw) (g := mkF w.m pc Ls st) rfl (C.dec hd) t r
theorem g_ldc2Long (C : Cx w l Z own bytes mx rt nm rm n0) {i : Nat} {v : Int64} (hw : (Jvm.Cond.constantLong own i v).before a0 Z = true) (hd : decode bytes pc = .ok (.ldc2_w i, 3)) (hp : pc + 3 = pc') (g : G w Q h k n pc' Ls (.long v :: st)) : G w Q h k n pc Ls st := by
  subst hp; exact g.adv fun T locs X _ t r => X.ldc2Long C.ex C.ow (mvT C.hZ hw) (g := mkF w.m pc Ls st) rfl (C.dec hd) t r
theorem g_iadd (C : Cx w l Z own bytes mx rt nm rm n0) {x y : Int32} (hd : decode bytes pc = .ok (.iadd, 1)) (hs : st = .int y :: .int x :: rest) (hp : pc + 1 = pc') (g : G w Q h k n pc' Ls (.int (x + y) :: rest)) : G w Q h k n pc Ls st := by
  subst hp; exact g.adv fun T locs X _ t r => XS.iadd X.here C.ex rfl (C.dec hd) hs r
theorem g_isub (C : Cx w l Z own bytes mx rt nm rm n0) {x y : Int32} (hd : decode bytes pc = .ok (.isub, 1)) (hs : st = .int y :: .int x :: rest) (hp : pc + 1 = pc') (g : G w Q h k n pc' Ls (.int (x - y) :: rest)) : G w Q h k n pc Ls st := by
  subst hp; exact g.adv fun T locs X _ t r => XS.isub X.here C.ex rfl (C.dec hd) hs r
theorem g_imul (C : Cx w l Z own bytes mx rt nm rm n0) {x y : Int32} (hd : decode bytes pc = .ok (.imul, 1)) (hs : st = .int y :: .int x :: rest) (hp : pc + 1 = pc') (g : G w Q h k n pc' Ls (.int (x * y) :: rest)) : G w Q h k n pc Ls st := by
  subst hp; exact g.adv fun T locs X _ t r => XS.imul X.here C.ex rfl (C.dec hd) hs r
theorem g_iand (C : Cx w l Z own bytes mx rt nm rm n0) {x y : Int32} (hd : decode bytes pc = .ok (.iand, 1)) (hs : st = .int y :: .int x :: rest) (hp : pc + 1 = pc') (g : G w Q h k n pc' Ls (.int (x &&& y) :: rest)) : G w Q h k n pc Ls st := by
  subst hp; exact g.adv fun T locs X _ t r => XS.iand X.here C.ex rfl (C.dec hd) hs r
theorem g_ior (C : Cx w l Z own bytes mx rt nm rm n0) {x y : Int32} (hd : decode bytes pc = .ok (.ior, 1)) (hs : st = .int y :: .int x :: rest) (hp : pc + 1 = pc') (g : G w Q h k n pc' Ls (.int (x ||| y) :: rest)) : G w Q h k n pc Ls st := by
  subst hp; exact g.adv fun T locs X _ t r => XS.ior X.here C.ex rfl (C.dec hd) hs r
theorem g_ixor (C : Cx w l Z own bytes mx rt nm rm n0) {x y : Int32} (hd : decode bytes pc = .ok (.ixor, 1)) (hs : st = .int y :: .int x :: rest) (hp : pc + 1 = pc') (g : G w Q h k n pc' Ls (.int (x ^^^ y) :: rest)) : G w Q h k n pc Ls st := by
  subst hp; exact g.adv fun T locs X _ t r => XS.ixor X.here C.ex rfl (C.dec hd) hs r
theorem g_ladd (C : Cx w l Z own bytes mx rt nm rm n0) {x y : Int64} (hd : decode bytes pc = .ok (.ladd, 1)) (hs : st = .long y :: .long x :: rest) (hp : pc + 1 = pc') (g : G w Q h k n pc' Ls (.long (x + y) :: rest)) : G w Q h k n pc Ls st := by
  subst hp; exact g.adv fun T locs X _ t r => XS.ladd X.here C.ex rfl (C.dec hd) hs r
theorem g_lsub (C : Cx w l Z own bytes mx rt nm rm n0) {x y : Int64} (hd : decode bytes pc = .ok (.lsub, 1)) (hs : st = .long y :: .long x :: rest) (hp : pc + 1 = pc') (g : G w Q h k n pc' Ls (.long (x - y) :: rest)) : G w Q h k n pc Ls st := by
  subst hp; exact g.adv fun T locs X _ t r => XS.lsub X.here C.ex rfl (C.dec hd) hs r
theorem g_lmul (C : Cx w l Z own bytes mx rt nm rm n0) {x y : Int64} (hd : decode bytes pc = .ok (.lmul, 1)) (hs : st = .long y :: .long x :: rest) (hp : pc + 1 = pc') (g : G w Q h k n pc' Ls (.long (x * y) :: rest)) : G w Q h k n pc Ls st := by
  subst hp; exact g.adv fun T locs X _ t r => XS.lmul X.here C.ex rfl (C.dec hd) hs r
theorem g_land (C : Cx w l Z own bytes mx rt nm rm n0) {x y : Int64} (hd : decode bytes pc = .ok (.land, 1)) (hs : st = .long y :: .long x :: rest) (hp : pc + 1 = pc') (g : G w Q h k n pc' Ls (.long (x &&& y) :: rest)) : G w Q h k n pc Ls st := by
  subst hp; exact g.adv fun T locs X _ t r => XS.land X.here C.ex rfl (C.dec hd) hs r
theorem g_lor (C : Cx w l Z own bytes mx rt nm rm n0) {x y : Int64} (hd : decode bytes pc = .ok (.lor, 1)) (hs : st = .long y :: .long x :: rest) (hp : pc + 1 = pc') (g : G w Q h k n pc' Ls (.long (x ||| y) :: rest)) : G w Q h k n pc Ls st := by
  subst hp; exact g.adv fun T locs X _ t r => XS.lor X.here C.ex rfl (C.dec hd) hs r
theorem g_lxor (C : Cx w l Z own bytes mx rt nm rm n0) {x y : Int64} (hd : decode bytes pc = .ok (.lxor, 1)) (hs : st = .long y :: .long x :: rest) (hp : pc + 1 = pc') (g : G w Q h k n pc' Ls (.long (x ^^^ y) :: rest)) : G w Q h k n pc Ls st := by
  subst hp; exact g.adv fun T locs X _ t r => XS.lxor X.here C.ex rfl (C.dec hd) hs r
theorem g_ishl (C : Cx w l Z own bytes mx rt nm rm n0) {x y : Int32} (hd : decode bytes pc = .ok (.ishl, 1)) (hs : st = .int y :: .int x :: rest) (hp : pc + 1 = pc') (g : G w Q h k n pc' Ls (.int (x <<< (y &&& 31)) :: rest)) : G w Q h k n pc Ls st := by
  subst hp; exact g.adv fun T locs X _ t r => XS.ishl X.here C.ex rfl (C.dec hd) hs r
theorem g_ishr (C : Cx w l Z own bytes mx rt nm rm n0) {x y : Int32} (hd : decode bytes pc = .ok (.ishr, 1)) (hs : st = .int y :: .int x :: rest) (hp : pc + 1 = pc') (g : G w Q h k n pc' Ls (.int (x >>> (y &&& 31)) :: rest)) : G w Q h k n pc Ls st := by
  subst hp; exact g.adv fun T locs X _ t r => XS.ishr X.here C.ex rfl (C.dec hd) hs r
theorem g_iushr (C : Cx w l Z own bytes mx rt nm rm n0) {x y : Int32} (hd : decode bytes pc = .ok (.iushr, 1)) (hs : st = .int y :: .int x :: rest) (hp : pc + 1 = pc') (g : G w Q h k n pc' Ls (.int ((x.toUInt32 >>> (y &&& 31).toUInt32).toInt32) :: rest)) : G w Q h k n pc Ls st := by
  subst hp; exact g.adv fun T locs X _ t r => XS.iushr X.here C.ex rfl (C.dec hd) hs r
theorem g_ineg (C : Cx w l Z own bytes mx rt nm rm n0) {x : Int32} (hd : decode bytes pc = .ok (.ineg, 1)) (hs : st = .int x :: rest) (hp : pc + 1 = pc') (g : G w Q h k n pc' Ls (.int (-x) :: rest)) : G w Q h k n pc Ls st := by
  subst hp; exact g.adv fun T locs X _ t r => XS.ineg X.here C.ex rfl (C.dec hd) hs r
theorem g_lneg (C : Cx w l Z own bytes mx rt nm rm n0) {x : Int64} (hd : decode bytes pc = .ok (.lneg, 1)) (hs : st = .long x :: rest) (hp : pc + 1 = pc') (g : G w Q h k n pc' Ls (.long (-x) :: rest)) : G w Q h k n pc Ls st := by
  subst hp; exact g.adv fun T locs X _ t r => XS.lneg X.here C.ex rfl (C.dec hd) hs r
theorem g_i2l (C : Cx w l Z own bytes mx rt nm rm n0) {x : Int32} (hd : decode bytes pc = .ok (.i2l, 1)) (hs : st = .int x :: rest) (hp : pc + 1 = pc') (g : G w Q h k n pc' Ls (.long x.toInt64 :: rest)) : G w Q h k n pc Ls st := by
  subst hp; exact g.adv fun T locs X _ t r => XS.i2l X.here C.ex rfl (C.dec hd) hs r
theorem g_l2i (C : Cx w l Z own bytes mx rt nm rm n0) {x : Int64} (hd : decode bytes pc = .ok (.l2i, 1)) (hs : st = .long x :: rest) (hp : pc + 1 = pc') (g : G w Q h k n pc' Ls (.int x.toInt32 :: rest)) : G w Q h k n pc Ls st := by
  subst hp; exact g.adv fun T locs X _ t r => XS.l2i X.here C.ex rfl (C.dec hd) hs r
theorem g_i2b (C : Cx w l Z own bytes mx rt nm rm n0) {x : Int32} (hd : decode bytes pc = .ok (.i2b, 1)) (hs : st = .int x :: rest) (hp : pc + 1 = pc') (g : G w Q h k n pc' Ls (.int x.toInt8.toInt32 :: rest)) : G w Q h k n pc Ls st := by
  subst hp; exact g.adv fun T locs X _ t r => XS.i2b X.here C.ex rfl (C.dec hd) hs r
theorem g_i2s (C : Cx w l Z own bytes mx rt nm rm n0) {x : Int32} (hd : decode bytes pc = .ok (.i2s, 1)) (hs : st = .int x :: rest) (hp : pc + 1 = pc') (g : G w Q h k n pc' Ls (.int x.toInt16.toInt32 :: rest)) : G w Q h k n pc Ls st := by
  subst hp; exact g.adv fun T locs X _ t r => XS.i2s X.here C.ex rfl (C.dec hd) hs r
theorem g_i2c (C : Cx w l Z own bytes mx rt nm rm n0) {x : Int32} (hd : decode bytes pc = .ok (.i2c, 1)) (hs : st = .int x :: rest) (hp : pc + 1 = pc') (g : G w Q h k n pc' Ls (.int x.toUInt32.toUInt16.toUInt32.toInt32 :: rest)) : G w Q h k n pc Ls st := by
  subst hp; exact g.adv fun T locs X _ t r => XS.i2c X.here C.ex rfl (C.dec hd) hs r
theorem g_irem (C : Cx w l Z own bytes mx rt nm rm n0) {x y : Int32} (hd : decode bytes pc = .ok (.irem, 1)) (hs : st = .int y :: .int x :: rest) (hy : y ≠ 0) (hp : pc + 1 = pc') (g : G w Q h k n pc' Ls (.int (x % y) :: rest)) : G w Q h k n pc Ls st := by
  subst hp; exact g.adv fun T locs X _ t r => iremM (g := mkF w.m pc Ls st) X C.ex rfl (C.dec hd) hs hy r
theorem g_idiv (C : Cx w l Z own bytes mx rt nm rm n0) {x y : Int32} (hd : decode bytes pc = .ok (.idiv, 1)) (hs : st = .int y :: .int x :: rest) (hy : y ≠ 0) (hp : pc + 1 = pc') (g : G w Q h k n pc' Ls (.int (x / y) :: rest)) : G w Q h k n pc Ls st := by
  subst hp; exact g.adv fun T locs X _ t r => XS.idiv X.here C.ex rfl (C.dec hd) hs hy r
theorem g_ldiv (C : Cx w l Z own bytes mx rt nm rm n0) {x y : Int64} (hd : decode bytes pc = .ok (.ldiv, 1)) (hs : st = .long y :: .long x :: rest) (hy : y ≠ 0) (hp : pc + 1 = pc') (g : G w Q h k n pc' Ls (.long (x / y) :: rest)) : G w Q h k n pc Ls st := by
  subst hp; exact g.adv fun T locs X _ t r => XS.ldiv X.here C.ex rfl (C.dec hd) hs hy r
theorem g_lrem (C : Cx w l Z own bytes mx rt nm rm n0) {x y : Int64} (hd : decode bytes pc = .ok (.lrem, 1)) (hs : st = .long y :: .long x :: rest) (hy : y ≠ 0) (hp : pc + 1 = pc') (g : G w Q h k n pc' Ls (.long (x - (x / y) * y) :: rest)) : G w Q h k n pc Ls st := by
  subst hp; exact g.adv fun T locs X _ t r => XS.lrem X.here C.ex rfl (C.dec hd) hs hy r
theorem g_lcmp (C : Cx w l Z own bytes mx rt nm rm n0) {x y : Int64} (hd : decode bytes pc = .ok (.lcmp, 1)) (hs : st = .long y :: .long x :: rest) (hp : pc + 1 = pc') (g : G w Q h k n pc' Ls (.int (lcmpW x y) :: rest)) : G w Q h k n pc Ls st := by
  subst hp; exact g.adv fun T locs X _ t r => XS.lcmp X.here C.ex rfl (C.dec hd) hs r
theorem g_dup (C : Cx w l Z own bytes mx rt nm rm n0) {x : Value} (hd : decode bytes pc = .ok (.dup, 1)) (hs : st = x :: rest) (hc : x.category = 1) (hp : pc + 1 = pc') (g : G w Q h k n pc' Ls (x :: x :: rest)) : G w Q h k n pc Ls st := by
  subst hp; exact g.adv fun T locs X _ t r => XS.dup X.here C.ex rfl (C.dec hd) hs hc r
theorem g_pop (C : Cx w l Z own bytes mx rt nm rm n0) {x : Value} (hd : decode bytes pc = .ok (.pop, 1)) (hs : st = x :: rest) (hc : x.category = 1) (hp : pc + 1 = pc') (g : G w Q h k n pc' Ls rest) : G w Q h k n pc Ls st := by
  subst hp; exact g.adv fun T locs X _ t r => XS.pop X.here C.ex rfl (C.dec hd) hs hc r
theorem g_dup_x1 (C : Cx w l Z own bytes mx rt nm rm n0) {x y : Value} (hd : decode bytes pc = .ok (.dup_x1, 1)) (hs : st = x :: y :: rest) (hc : x.category = 1) (hc' : y.category = 1) (hp : pc + 1 = pc') (g : G w Q h k n pc' Ls (x :: y :: x :: rest)) : G w Q h k n pc Ls st := by
  subst hp; exact g.adv fun T locs X _ t r => XS.dupX1 X.here C.ex rfl (C.dec hd) hs hc hc' r
theorem g_dup2 (C : Cx w l Z own bytes mx rt nm rm n0) {x y : Value} (hd : decode bytes pc = .ok (.dup2, 1)) (hs : st = x :: y :: rest) (hc : x.category = 1) (hc' : y.category = 1) (hp : pc + 1 = pc') (g : G w Q h k n pc' Ls (x :: y :: x :: y :: rest)) : G w Q h k n pc Ls st := by
  subst hp; exact g.adv fun T locs X _ t r => XT.dup2 X.here C.ex rfl (C.dec hd) hs hc hc' r
theorem g_dup2L (C : Cx w l Z own bytes mx rt nm rm n0) {x : Int64} (hd : decode bytes pc = .ok (.dup2, 1)) (hs : st = .long x :: rest) (hp : pc + 1 = pc') (g : G w Q h k n pc' Ls (.long x :: .long x :: rest)) : G w Q h k n pc Ls st := by
  subst hp; exact g.adv fun T locs X _ t r => XT.dup2L X.here C.ex rfl (C.dec hd) hs r
theorem g_pop2L (C : Cx w l Z own bytes mx rt nm rm n0) {x : Int64} (hd : decode bytes pc = .ok (.pop2, 1)) (hs : st = .long x :: rest) (hp : pc + 1 = pc') (g : G w Q h k n pc' Ls rest) : G w Q h k n pc Ls st := by
  subst hp hs; exact g.adv fun T locs X _ t r => by
    have hx := C.ex
    have hd' := C.dec hd
    show Steps w.p.tables w.e w.below (T.setTop { method := w.m, pc := pc, locals := Ls, stack := _ :: rest, locked := none }) _
    jvm_step X.here [X.here.top, hx, hd', Value.category]
    exact r
theorem g_dup2_x2L (C : Cx w l Z own bytes mx rt nm rm n0) {x : Int64} {y : Int32} {z : Addr} (hd : decode bytes pc = .ok (.dup2_x2, 1)) (hs : st = .long x :: .int y :: .ref z :: rest) (hp : pc + 1 = pc') (g : G w Q h k n pc' Ls (.long x :: .int y :: .ref z :: .long x :: rest)) : G w Q h k n pc Ls st := by
  subst hp hs; exact g.adv fun T locs X _ t r => by
    have hx := C.ex
    have hd' := C.dec hd
    show Steps w.p.tables w.e w.below (T.setTop { method := w.m, pc := pc, locals := Ls, stack := _ :: _ :: _ :: rest, locked := none }) _
    jvm_step X.here [X.here.top, hx, hd', Value.category]
    exact r
theorem g_goto (C : Cx w l Z own bytes mx rt nm rm n0) {o : Int} (hd : decode bytes pc = .ok (.goto o, 3)) (ho : 0 ≤ (pc : Int) + o) (hp : ((pc : Int) + o).toNat = pc') (g : G w Q h k n pc' Ls st) : G w Q h k n pc Ls st :=
  g.adv fun T locs X _ t r => XS.goto X.here C.ex rfl (pc0 := pc) rfl (C.dec hd) ho hp r
theorem g_ifY (C : Cx w l Z own bytes mx rt nm rm n0) {cd : ClassFile.Cond} {o : Int} {x : Int32} (hd : decode bytes pc = .ok (.ifCond cd o, 3)) (hs : st = .int x :: rest) (hc : if_icmp.holds cd x 0 = true) (ho : 0 ≤ (pc : Int) + o) (hp : ((pc : Int) + o).toNat = pc') (g : G w Q h k n pc' Ls rest) : G w Q h k n pc Ls st :=
  g.adv fun T locs X _ t r => XS.ifYes X.here C.ex rfl (pc0 := pc) rfl (C.dec hd) hs ((if0 _ _).trans hc) ho hp r
theorem g_ifN (C : Cx w l Z own bytes mx rt nm rm n0) {cd : ClassFile.Cond} {o : Int} {x : Int32} (hd : decode bytes pc = .ok (.ifCond cd o, 3)) (hs : st = .int x :: rest) (hc : if_icmp.holds cd x 0 = false) (hp : pc + 3 = pc') (g : G w Q h k n pc' Ls rest) : G w Q h k n pc Ls st := by
  subst hp; exact g.adv fun T locs X _ t r => XS.ifNo X.here C.ex rfl (C.dec hd) hs ((if0 _ _).trans hc) r
theorem g_icY (C : Cx w l Z own bytes mx rt nm rm n0) {cd : ClassFile.Cond} {o : Int} {x y : Int32} (hd : decode bytes pc = .ok (.if_icmp cd o, 3)) (hs : st = .int y :: .int x :: rest) (hc : if_icmp.holds cd x y = true) (ho : 0 ≤ (pc : Int) + o) (hp : ((pc : Int) + o).toNat = pc') (g : G w Q h k n pc' Ls rest) : G w Q h k n pc Ls st :=
  g.adv fun T locs X _ t r => XS.icmpYes X.here C.ex rfl (pc0 := pc) rfl (C.dec hd) hs hc ho hp r
theorem g_icN (C : Cx w l Z own bytes mx rt nm rm n0) {cd : ClassFile.Cond} {o : Int} {x y : Int32} (hd : decode bytes pc = .ok (.if_icmp cd o, 3)) (hs : st = .int y :: .int x :: rest) (hc : if_icmp.holds cd x y = false) (hp : pc + 3 = pc') (g : G w Q h k n pc' Ls rest) : G w Q h k n pc Ls st := by
  subst hp; exact g.adv fun T locs X _ t r => XS.icmpNo X.here C.ex rfl (C.dec hd) hs hc r
/-- what a branch says, in plain words -/
def says (cd : ClassFile.Cond) (x y : Int32) : Prop := match cd with | .lt => x < y | .ge => ¬ x < y | .gt => y < x | .le => ¬ y < x | .eq => x = y | .ne => ¬ x = y
theorem says_t {cd : ClassFile.Cond} {x y : Int32} (q : says cd x y) : if_icmp.holds cd x y = true := by
  cases cd
  · exact (teq q).1
  · exact (feq q).2
  · exact (tlt q).1
  · exact (flt q).2.1
  · exact (tlt q).2.2.1
  · exact (flt q).2.2.2
theorem says_f {cd : ClassFile.Cond} {x y : Int32} (q : ¬ says cd x y) : if_icmp.holds cd x y = false := by
  cases cd
  · exact (feq q).1
  · exact (teq (Decidable.not_not.mp q)).2
  · exact (flt q).1
  · exact (tlt (Decidable.not_not.mp q)).2.1
  · exact (flt q).2.2.1
  · exact (tlt (Decidable.not_not.mp q)).2.2.2
theorem g_icB (C : Cx w l Z own bytes mx rt nm rm n0) {cd : ClassFile.Cond} {o : Int} {x y : Int32} {pcT : Nat} (hd : decode bytes pc = .ok (.if_icmp cd o, 3)) (hs : st = .int y :: .int x :: rest) (ho : 0 ≤ (pc : Int) + o) (hT : ((pc : Int) + o).toNat = pcT) (hp : pc + 3 = pc') (gy : says cd x y → G w Q h k n pcT Ls rest) (gn : ¬ says cd x y → G w Q h k n pc' Ls rest) : G w Q h k n pc Ls st := by
  by_cases q : says cd x y
  · exact g_icY C hd hs (says_t q) ho hT (gy q)
  · exact g_icN C hd hs (says_f q) hp (gn q)
theorem g_ifB (C : Cx w l Z own bytes mx rt nm rm n0) {cd : ClassFile.Cond} {o : Int} {x : Int32} {pcT : Nat} (hd : decode bytes pc = .ok (.ifCond cd o, 3)) (hs : st = .int x :: rest) (ho : 0 ≤ (pc : Int) + o) (hT : ((pc : Int) + o).toNat = pcT) (hp : pc + 3 = pc') (gy : says cd x 0 → G w Q h k n pcT Ls rest) (gn : ¬ says cd x 0 → G w Q h k n pc' Ls rest) : G w Q h k n pc Ls st := by
  by_cases q : says cd x 0
  · exact g_ifY C hd hs (says_t q) ho hT (gy q)
  · exact g_ifN C hd hs (says_f q) hp (gn q)
theorem g_ifnullY (C : Cx w l Z own bytes mx rt nm rm n0) {o : Int} (hd : decode bytes pc = .ok (.ifnull o, 3)) (hs : st = .null :: rest) (ho : 0 ≤ (pc : Int) + o) (hp : ((pc : Int) + o).toNat = pc') (g : G w Q h k n pc' Ls rest) : G w Q h k n pc Ls st :=
  g.adv fun T locs X _ t r => XS.ifnullYes X.here C.ex rfl (pc0 := pc) rfl (C.dec hd) hs ho hp r
theorem g_ifnullN (C : Cx w l Z own bytes mx rt nm rm n0) {o : Int} {b : Addr} (hd : decode bytes pc = .ok (.ifnull o, 3)) (hs : st = .ref b :: rest) (hp : pc + 3 = pc') (g : G w Q h k n pc' Ls rest) : G w Q h k n pc Ls st := by
  subst hp; exact g.adv fun T locs X _ t r => XS.ifnullNo X.here C.ex rfl (C.dec hd) hs r
theorem g_ifnonnullY (C : Cx w l Z own bytes mx rt nm rm n0) {o : Int} {b : Addr} (hd : decode bytes pc = .ok (.ifnonnull o, 3)) (hs : st = .ref b :: rest) (ho : 0 ≤ (pc : Int) + o) (hp : ((pc : Int) + o).toNat = pc') (g : G w Q h k n pc' Ls rest) : G w Q h k n pc Ls st :=
  g.adv fun T locs X _ t r => XS.ifnonnullYes X.here C.ex rfl (pc0 := pc) rfl (C.dec hd) hs ho hp r
theorem g_ifnonnullN (C : Cx w l Z own bytes mx rt nm rm n0) {o : Int} (hd : decode bytes pc = .ok (.ifnonnull o, 3)) (hs : st = .null :: rest) (hp : pc + 3 = pc') (g : G w Q h k n pc' Ls rest) : G w Q h k n pc Ls st := by
  subst hp; exact g.adv fun T locs X _ t r => XS.ifnonnullNo X.here C.ex rfl (C.dec hd) hs r
theorem g_acmp (C : Cx w l Z own bytes mx rt nm rm n0) {cd : ACond} {o : Int} {x y : Value} {same : Bool} (hd : decode bytes pc = .ok (.if_acmp cd o, 3)) (hs : st = y :: x :: rest) (h1 : x.isRef = true) (h2 : y.isRef = true) (hq : decide (x = y) = same) (ho : 0 ≤ (pc : Int) + o) (hp : pc' = if acV cd same = true then ((pc : Int) + o).toNat else pc + 3) (g : G w Q h k n pc' Ls rest) : G w Q h k n pc Ls st :=
  g.adv fun T locs X _ t r => Jvm.RoadKit.acmp (g := mkF w.m pc Ls st) X C.ex rfl h1 h2 (pc0 := pc) rfl (C.dec hd) hs hq ho hp r
theorem g_tsw (C : Cx w l Z own bytes mx rt nm rm n0) {df lo hi : Int} {offs : Array Int} {len : Nat} {o : Int} {i : Int32} (hd : decode bytes pc = .ok (.tableswitch df lo hi offs, len)) (hs : st = .int i :: rest) (hin : ¬ (i.toInt < lo ∨ i.toInt > hi)) (hoff : offs[(i.toInt - lo).toNat]? = some o) (ho : 0 ≤ (pc : Int) + o) (hp : ((pc : Int) + o).toNat = pc') (g : G w Q h k n pc' Ls rest) : G w Q h k n pc Ls st :=
  g.adv fun T locs X _ t r => XS.tswIn X.here C.ex rfl (pc0 := pc) rfl (C.dec hd) hs hin hoff ho hp r
theorem g_tswOut (C : Cx w l Z own bytes mx rt nm rm n0) {df lo hi : Int} {offs : Array Int} {len : Nat} {i : Int32} (hd : decode bytes pc = .ok (.tableswitch df lo hi offs, len)) (hs : st = .int i :: rest) (hin : i.toInt < lo ∨ i.toInt > hi) (ho : 0 ≤ (pc : Int) + df) (hp : ((pc : Int) + df).toNat = pc') (g : G w Q h k n pc' Ls rest) : G w Q h k n pc Ls st :=
  g.adv fun T locs X _ t r => XS.tswOut X.here C.ex rfl (pc0 := pc) rfl (C.dec hd) hs hin ho hp r
/-! the heap and the tables -/
theorem g_getF (C : Cx w l Z own bytes mx rt nm rm n0) {R0 O f d : String} {i : Nat} {a : Addr} {v : Value} (hw : (Jvm.Cond.fieldLink own i R0 f d).before a0 Z = true) (via : Via Z R0 O f d) (hd : decode bytes pc = .ok (.getfield i, 3)) (hs : st = .ref a :: rest) (F : Fld Z h a O f d v) (hp : pc + 3 = pc') (g : G w Q h k n pc' Ls (v :: rest)) : G w Q h k n pc Ls st := by
  subst hp; intro T locs X eT N
  obtain ⟨T', X', e', s'⟩ := getF X C.ex C.hZ C.ow (host := "") (Or.inl hw) via eT F (g := mkF w.m pc Ls st) rfl hs (C.dec hd)
  exact G.to X' e' N s' g
theorem g_getFN (C : Cx w l Z own bytes mx rt nm rm n0) {R0 O f d host : String} {i : Nat} {a : Addr} {v : Value} (hw : (Jvm.Cond.fieldLinkNest own i R0 f d host).before a0 Z = true) (via : Via Z R0 O f d) (hd : decode bytes pc = .ok (.getfield i, 3)) (hs : st = .ref a :: rest) (F : Fld Z h a O f d v) (hp : pc + 3 = pc') (g : G w Q h k n pc' Ls (v :: rest)) : G w Q h k n pc Ls st := by
  subst hp; intro T locs X eT N
  obtain ⟨T', X', e', s'⟩ := getF X C.ex C.hZ C.ow (Or.inr hw) via eT F (g := mkF w.m pc Ls st) rfl hs (C.dec hd)
  exact G.to X' e' N s' g
theorem g_getS (C : Cx w l Z own bytes mx rt nm rm n0) {R0 O f d : String} {i : Nat} {v : Value} (hw : (Jvm.Cond.fieldLink own i R0 f d).before a0 Z = true) (via : Via Z R0 O f d) (hd : decode bytes pc = .ok (.getstatic i, 3)) (F : Sta Z h O f d v) (hp : pc + 3 = pc') (g : G w Q h k n pc' Ls (v :: st)) : G w Q h k n pc Ls st := by
  subst hp; intro T locs X eT N
  obtain ⟨T', X', e', s'⟩ := getS2 X C.ex C.hZ C.ow (host := "") (Or.inl hw) via eT F (g := mkF w.m pc Ls st) rfl (C.dec hd)
  exact G.to X' e' N s' g
theorem g_getSN (C : Cx w l Z own bytes mx rt nm rm n0) {R0 O f d host : String} {i : Nat} {v : Value} (hw : (Jvm.Cond.fieldLinkNest own i R0 f d host).before a0 Z = true) (via : Via Z R0 O f d) (hd : decode bytes pc = .ok (.getstatic i, 3)) (F : Sta Z h O f d v) (hp : pc + 3 = pc') (g : G w Q h k n pc' Ls (v :: st)) : G w Q h k n pc Ls st := by
  subst hp; intro T locs X eT N
  obtain ⟨T', X', e', s'⟩ := getS2 X C.ex C.hZ C.ow (Or.inr hw) via eT F (g := mkF w.m pc Ls st) rfl (C.dec hd)
  exact G.to X' e' N s' g
theorem fr_snoc {L : List Loc} {a : Addr} {sl k : Nat} (N : Fr k L) (q : k ≤ a) : Fr k (L ++ [⟨a, sl⟩]) := N.app fun y hy => by cases List.mem_singleton.mp hy; exact q
theorem g_putF (C : Cx w l Z own bytes mx rt nm rm n0) {R0 O f d K : String} {i kk : Nat} {ty : FieldType} {a : Addr} {v old : Value} (hw : (Jvm.Cond.fieldLink own i R0 f d).before a0 Z = true) (via : Via Z R0 O f d) (hd : decode bytes pc = .ok (.putfield i, 3)) (hs : st = v :: .ref a :: rest) (F : Fld Z h a O f d old) (E : Exa Z h a K) (La : (Jvm.Cond.lays K O f d).before a0 Z = true ∨ ((Jvm.Cond.laysFinal K O f d).before a0 Z = true ∧ own = O ∧ nm = "<init>")) (wi : (Jvm.Cond.instantiable K kk).before a0 Z = true) (hty : parseFieldDescriptor d = some ty) (hn : narrow ty v = v) (hf : fits ty v = true) (ge : n0 ≤ a) (hp : pc + 3 = pc')
    (g : ∀ h', Wr h h' a (Jvm.RoadKit.slotOf Z O f d) v → G w Q h' k n pc' Ls rest) : G w Q h k n pc Ls st := by
  subst hp; intro T locs X eT N
  obtain ⟨T', h', X', e', W, s'⟩ := putF X C.ex C.hZ C.ow (host := "") (Or.inl hw) via eT F E (La.imp id fun q => ⟨q.1, q.2.1, C.mn.trans q.2.2⟩) wi hty hn hf (g := mkF w.m pc Ls st) rfl hs (C.dec hd)
  exact G.to X' e' (fr_snoc N (C.nn ▸ ge)) s' (g h' W)
theorem g_putFN (C : Cx w l Z own bytes mx rt nm rm n0) {R0 O f d K : String} {i kk : Nat} {ty : FieldType} {a : Addr} {v v' old : Value} (hw : (Jvm.Cond.fieldLink own i R0 f d).before a0 Z = true) (via : Via Z R0 O f d) (hd : decode bytes pc = .ok (.putfield i, 3)) (hs : st = v :: .ref a :: rest) (F : Fld Z h a O f d old) (E : Exa Z h a K) (La : (Jvm.Cond.lays K O f d).before a0 Z = true ∨ ((Jvm.Cond.laysFinal K O f d).before a0 Z = true ∧ own = O ∧ nm = "<init>")) (wi : (Jvm.Cond.instantiable K kk).before a0 Z = true) (hty : parseFieldDescriptor d = some ty) (hn : narrow ty v = v') (hf : fits ty v' = true) (ge : n0 ≤ a) (hp : pc + 3 = pc')
    (g : ∀ h', Wr h h' a (Jvm.RoadKit.slotOf Z O f d) v' → G w Q h' k n pc' Ls rest) : G w Q h k n pc Ls st := by
  subst hp; intro T locs X eT N
  obtain ⟨T', h', X', e', W, s'⟩ := putFN X C.ex C.hZ C.ow hw via eT F E (La.imp id fun q => ⟨q.1, q.2.1, C.mn.trans q.2.2⟩) wi hty hn hf (g := mkF w.m pc Ls st) rfl hs (C.dec hd)
  exact G.to X' e' (fr_snoc N (C.nn ▸ ge)) s' (g h' W)
theorem g_new (C : Cx w l Z own bytes mx rt nm rm n0) {K : String} {i ns : Nat} (hw : (Jvm.Cond.classLink own i K).before a0 Z = true) (wi : (Jvm.Cond.instantiable K ns).before a0 Z = true) (wz : (Jvm.Cond.initialized K).before a0 Z = true) (hd : decode bytes pc = .ok (.new i, 3)) (hc : k' ≤ rm.cells) (hl : n' ≤ rm.slots) (ek : k + 1 = k') (en : n + ns = n') (hp : pc + 3 = pc')
    (g : ∀ h' a, a = h.size → Ext h h' → Exa Z h' a K → (∀ {O f d : String} {ty : FieldType}, Laid Z a0 K O f d → parseFieldDescriptor d = some ty → Fld Z h' a O f d (defaultValue ty)) → G w Q h' k' n' pc' Ls (.ref a :: st)) : G w Q h k n pc Ls st := by
  subst hp ek en; intro T locs X eT N
  obtain ⟨T', h', X', e', E, A, D, -, s'⟩ := newO X C.ex C.hZ C.ow hw wi wz eT (g := mkF w.m pc Ls st) rfl (C.dec hd) (by rw [C.ro]; exact hc) (by rw [C.ro]; exact hl)
  exact G.to X' e' N s' (g h' _ rfl E A D)
theorem g_initO (C : Cx w l Z own bytes mx rt nm rm n0) {i : Nat} {a : Addr} (hw : (Jvm.Cond.methodLink own i Lib.objectInit).before a0 Z = true) (w2 : (Jvm.Cond.instanceMethod Lib.objectInit).before a0 Z = true) (w3 : (Jvm.Cond.code Lib.objectInit ⟨#[0xb1]⟩ 1 none).before a0 Z = true) (hd : decode bytes pc = .ok (.invokespecial i, 3)) (hs : st = .ref a :: rest) (hz : Ls.size = mx) (hf : 1 ≤ rm.frames) (hl : (rest.map fun v => v.category).sum + 12 ≤ rm.locals) (hp : pc + 3 = pc') (g : G w Q h k n pc' Ls rest) : G w Q h k n pc Ls st := by
  subst hp; intro T locs X eT N
  obtain ⟨T', X', e', s'⟩ := initO X C.ex C.hZ C.ow hw w2 w3 eT (g := mkF w.m pc Ls st) rfl (hz.trans C.ml.symm) hs (C.dec hd) (by rw [C.ro]; exact hf) (W := (rest.map fun v => v.category).sum) (by show 2 * 0 + _ ≤ _; omega) (by rw [C.ro]; exact hl)
  exact G.to X' e' N s' g
theorem g_cast (C : Cx w l Z own bytes mx rt nm rm n0) {K : String} {i : Nat} {a : Addr} (hw : (Jvm.Cond.classLink own i K).before a0 Z = true) (hd : decode bytes pc = .ok (.checkcast i, 3)) (hs : st = .ref a :: rest) (F : Ins Z h a K true) (hp : pc + 3 = pc') (g : G w Q h k n pc' Ls st) : G w Q h k n pc Ls st := by
  subst hp; intro T locs X eT N
  obtain ⟨T', X', e', s'⟩ := castY X C.ex C.hZ C.ow hw eT F (g := mkF w.m pc Ls st) rfl hs (C.dec hd)
  exact G.to X' e' N s' g
theorem g_instY (C : Cx w l Z own bytes mx rt nm rm n0) {K : String} {i : Nat} {a : Addr} (hw : (Jvm.Cond.classLink own i K).before a0 Z = true) (hd : decode bytes pc = .ok (.instanceof i, 3)) (hs : st = .ref a :: rest) (F : Ins Z h a K true) (hp : pc + 3 = pc') (g : G w Q h k n pc' Ls (.int 1 :: rest)) : G w Q h k n pc Ls st := by
  subst hp; intro T locs X eT N
  obtain ⟨T', X', e', s'⟩ := instY X C.ex C.hZ C.ow hw eT F (g := mkF w.m pc Ls st) rfl hs (C.dec hd)
  exact G.to X' e' N s' g
theorem g_instN (C : Cx w l Z own bytes mx rt nm rm n0) {K B : String} {i : Nat} {a : Addr} (hw : (Jvm.Cond.classLink own i K).before a0 Z = true) (hd : decode bytes pc = .ok (.instanceof i, 3)) (hs : st = .ref a :: rest) (E : Exa Z h a B) (F : ∃ c t, Z.vm.findClass B = some c ∧ Z.vm.findClass K = some t ∧ Z.vm.assignable c t = false) (hp : pc + 3 = pc') (g : G w Q h k n pc' Ls (.int 0 :: rest)) : G w Q h k n pc Ls st := by
  subst hp; intro T locs X eT N
  obtain ⟨T', X', e', s'⟩ := instNo X C.ex C.hZ C.ow hw eT E F (g := mkF w.m pc Ls st) rfl hs (C.dec hd)
  exact G.to X' e' N s' g
theorem g_newP (C : Cx w l Z own bytes mx rt nm rm n0) {aty : ArrayType} {z : Int32} {cap : Nat} (hw : (Jvm.Cond.arrayClass (newarray.typeOf aty)).before a0 Z = true) (hd : decode bytes pc = .ok (.newarray aty, 2)) (hs : st = .int z :: rest) (hn : ¬ z < 0) (hcap : z.toNatClampNeg ≤ cap) (hb' : cap * 8 ≤ 536870912) (hc : k' ≤ rm.cells) (hl : n' ≤ rm.slots) (ek : k + 1 = k') (en : n + cap = n') (hp : pc + 2 = pc')
    (g : ∀ h' a kA, a = h.size → Ext h h' → Arv Z h' a kA (newarray.typeOf aty) z [] (defaultValue (newarray.typeOf aty)) → G w Q h' k' n' pc' Ls (.ref a :: rest)) : G w Q h k n pc Ls st := by
  subst hp ek en; intro T locs X eT N
  obtain ⟨T', h', kA, X', e', E, A, s'⟩ := newP X C.ex C.hZ hw eT (g := mkF w.m pc Ls st) rfl (C.dec hd) hs hn hcap hb' (by rw [C.ro]; exact hc) (by rw [C.ro]; exact hl)
  exact G.to X' e' N s' (g h' _ kA rfl E (Arv.new A hn))
theorem g_newR (C : Cx w l Z own bytes mx rt nm rm n0) {K : String} {i : Nat} {z : Int32} {cap : Nat} (hw : (Jvm.Cond.classLink own i K).before a0 Z = true) (w2 : (Jvm.Cond.arrayOver (.object K)).before a0 Z = true) (hd : decode bytes pc = .ok (.anewarray i, 3)) (hs : st = .int z :: rest) (hn : ¬ z < 0) (hcap : z.toNatClampNeg ≤ cap) (hb' : cap * 8 ≤ 536870912) (hc : k' ≤ rm.cells) (hl : n' ≤ rm.slots) (ek : k + 1 = k') (en : n + cap = n') (hp : pc + 3 = pc')
    (g : ∀ h' a kA, a = h.size → Ext h h' → Arv Z h' a kA (.object K) z [] .null → Ovr Z kA K → G w Q h' k' n' pc' Ls (.ref a :: rest)) : G w Q h k n pc Ls st := by
  subst hp ek en; intro T locs X eT N
  obtain ⟨T', h', kA, X', e', E, A, O, s'⟩ := newR X C.ex C.hZ C.ow hw w2 eT (g := mkF w.m pc Ls st) rfl (C.dec hd) hs hn hcap hb' (by rw [C.ro]; exact hc) (by rw [C.ro]; exact hl)
  exact G.to X' e' N s' (g h' _ kA rfl E (Arv.new A hn) O)
theorem g_newPE (C : Cx w l Z own bytes mx rt nm rm n0) {aty : ArrayType} {z : Int32} {cap : Nat} {ad : String} (hw : (Jvm.Cond.arrayClass (newarray.typeOf aty)).before a0 Z = true) (had : "[" ++ (newarray.typeOf aty).toString = ad) (hd : decode bytes pc = .ok (.newarray aty, 2)) (hs : st = .int z :: rest) (hn : ¬ z < 0) (hcap : z.toNatClampNeg ≤ cap) (hb' : cap * 8 ≤ 536870912) (hc : k' ≤ rm.cells) (hl : n' ≤ rm.slots) (ek : k + 1 = k') (en : n + cap = n') (hp : pc + 2 = pc')
    (g : ∀ h' a kA, a = h.size → Ext h h' → Arv Z h' a kA (newarray.typeOf aty) z [] (defaultValue (newarray.typeOf aty)) → Exa Z h' a ad → G w Q h' k' n' pc' Ls (.ref a :: rest)) : G w Q h k n pc Ls st := by
  subst hp ek en; intro T locs X eT N
  obtain ⟨T', h', kA, X', e', E, A, B, s'⟩ := newPE X C.ex C.hZ hw eT (g := mkF w.m pc Ls st) rfl (C.dec hd) hs hn hcap hb' (by rw [C.ro]; exact hc) (by rw [C.ro]; exact hl) had
  exact G.to X' e' N s' (g h' _ kA rfl E (Arv.new A hn) B)
theorem g_newRA (C : Cx w l Z own bytes mx rt nm rm n0) {K ad : String} {i : Nat} {ty : FieldType} {z : Int32} {cap : Nat} (hC : (FieldType.array ty).toString = K) (had : "[" ++ K = ad) (hw : (Jvm.Cond.classLink own i K).before a0 Z = true) (w2 : (Jvm.Cond.arrayOver (.array ty)).before a0 Z = true) (hd : decode bytes pc = .ok (.anewarray i, 3)) (hs : st = .int z :: rest) (hn : ¬ z < 0) (hcap : z.toNatClampNeg ≤ cap) (hb' : cap * 8 ≤ 536870912) (hc : k' ≤ rm.cells) (hl : n' ≤ rm.slots) (ek : k + 1 = k') (en : n + cap = n') (hp : pc + 3 = pc')
    (g : ∀ h' a kA, a = h.size → Ext h h' → Arv Z h' a kA (.array ty) z [] .null → Exa Z h' a ad → OvrA Z kA ty K → G w Q h' k' n' pc' Ls (.ref a :: rest)) : G w Q h k n pc Ls st := by
  subst hp ek en; intro T locs X eT N
  obtain ⟨T', h', kA, X', e', E, A, B, O, s'⟩ := newRA X C.ex C.hZ C.ow hC hw w2 eT (g := mkF w.m pc Ls st) rfl (C.dec hd) hs hn hcap hb' (by rw [C.ro]; exact hc) (by rw [C.ro]; exact hl) had
  exact G.to X' e' N s' (g h' _ kA rfl E (Arv.new A hn) B O)
theorem stoA {h : Heap} {a y : Addr} {kA : ClassId} {t0 ty : FieldType} {K : String} {z : Int32} {vs : List Value} {dv : Value} (A : Arv Z h a kA t0 z vs dv) (O : OvrA Z kA ty K) (E : Exa Z h y K) : Sto Z h a (.ref y) := by
  obtain ⟨c, Ar, q, -⟩ := A; exact Sto.ofVA Ar q O (Ins.self E)
theorem stoR {h : Heap} {a y : Addr} {kA : ClassId} {t0 : FieldType} {K : String} {z : Int32} {vs : List Value} {dv : Value} (A : Arv Z h a kA t0 z vs dv) (O : Ovr Z kA K) (I : Ins Z h y K true) : Sto Z h a (.ref y) := by
  obtain ⟨c, Ar, q, -⟩ := A; exact Sto.ofV Ar q O I
theorem g_cpA (C : Cx w l Z own bytes mx rt nm rm n0) {i : Nat} {a b : Addr} {k1 k2 : ClassId} {ty ty' : FieldType} {z z' sp dp nn : Int32} {vs vd us : List Value} {dv dd : Value}
    (w1 : (Jvm.Cond.methodLink own i Jvm.Stand.acN).before a0 Z = true) (w2 : (Jvm.Cond.native Jvm.Stand.acN).before a0 Z = true) (w3 : (Jvm.Cond.static Jvm.Stand.acN).before a0 Z = true) (w4 : (Jvm.Cond.initialized "java/lang/System").before a0 Z = true)
    (hd : decode bytes pc = .ok (.invokestatic i, 3)) (hs : st = .int nn :: .int dp :: .ref b :: .int sp :: .ref a :: rest) (hz : Ls.size = mx) (A : Arv Z h a k1 ty z vs dv) (B : Arv Z h b k2 ty' z' vd dd) (hty : (ty = ty' ∧ refKind ty = false) ∨ (refKind ty = true ∧ refKind ty' = true ∧ StoL Z h b us))
    (h1 : ¬ sp < 0) (h2 : ¬ dp < 0) (h3 : ¬ nn < 0) (h4 : sp.toNatClampNeg + nn.toNatClampNeg ≤ z.toNatClampNeg) (h5 : dp.toNatClampNeg + nn.toNatClampNeg ≤ z'.toNatClampNeg) (hus : us = (List.range nn.toNatClampNeg).map fun i => vs.getD (sp.toNatClampNeg + i) dv) (hlen : dp.toNatClampNeg + nn.toNatClampNeg ≤ vd.length) (ge : n0 ≤ b)
    (hf : 1 ≤ rm.frames) (hlo : (rest.map fun v => v.category).sum + (nativeFrameWords "java/lang/System" "arraycopy" 5 + 11) ≤ rm.locals) (hp : pc + 3 = pc')
    (g : ∀ h', Keep h h' [b] → Arv Z h' b k2 ty' z' (vd.take dp.toNatClampNeg ++ us ++ vd.drop (dp.toNatClampNeg + nn.toNatClampNeg)) dd → G w Q h' k n pc' Ls rest) : G w Q h k n pc Ls st := by
  subst hp; intro T locs X eT N
  obtain ⟨T', h', L, X', e', N', K, A', s'⟩ := cpA X C.ex C.hZ C.ow w1 w2 w3 w4 eT A B hty h1 h2 h3 h4 h5 hus hlen (n0 := w.n0) N (C.nn ▸ ge) (g := mkF w.m pc Ls st) rfl (hz.trans C.ml.symm) hs (C.dec hd) (by rw [C.ro]; exact hf) (W := (rest.map fun v => v.category).sum) (by show 2 * 0 + _ ≤ _; omega) (by rw [C.ro]; exact hlo)
  exact G.to X' e' N' s' (g h' K A')
/-! arrays by their values: an array fact (Arv) with a list of all its values -/
theorem arv_inb {a : Addr} {kA : ClassId} {ty : FieldType} {z j : Int32} {vs : List Value} {dv : Value} (A : Arv Z h a kA ty z vs dv) (q1 : ¬ j < 0) (q2 : j < z) : ∃ cl, Arr Z h a cl ty ∧ ¬ (j < 0 ∨ cl.slots.size ≤ j.toNatClampNeg) ∧ cl.slots[j.toNatClampNeg]? = some (vs.getD j.toNatClampNeg dv) := by
  obtain ⟨cl, Ar, -, S, -, H, -⟩ := A
  have hi := inb_of S ⟨q1, q2⟩
  exact ⟨cl, Ar, hi, H.at hi rfl⟩
theorem arv_put {h' : Heap} {a : Addr} {kA : ClassId} {ty : FieldType} {z j : Int32} {vs : List Value} {dv v : Value} (A : Arv Z h a kA ty z vs dv) (hv : fits ty v = true) (W : Wr h h' a j.toNatClampNeg v) {i : Nat} (hj : j.toNatClampNeg = i) (hi : i < vs.length) : Arv Z h' a kA ty z (vs.set i v) dv := by
  obtain ⟨cl, Ar, q1, S, q3, H, F⟩ := A
  exact Arv.set Ar q1 S q3 H F hv W i hj hi

theorem g_iaload (C : Cx w l Z own bytes mx rt nm rm n0) {a : Addr} {kA : ClassId} {z j : Int32} {vs : List Value} {dv : Value} {x : Int32} (hd : decode bytes pc = .ok (.iaload, 1)) (hs : st = .int j :: .ref a :: rest) (A : Arv Z h a kA .int z vs dv) (q1 : ¬ j < 0) (q2 : j < z) (hv : vs.getD j.toNatClampNeg dv = .int x) (hp : pc + 1 = pc') (g : G w Q h k n pc' Ls (.int x :: rest)) : G w Q h k n pc Ls st := by
  subst hp; intro T locs X eT N
  obtain ⟨cl, Ar, hi, hg⟩ := arv_inb A q1 q2
  rw [hv] at hg
  exact G.to X eT N (fun t r => X.iaload C.ex (j := j) (v := .int x) (by rw [eT]; exact Ar.1) (State.isArrayOf_alike C.hZ.alike Ar.2.1) Ar.2.2 hi hg (g := mkF w.m pc Ls st) rfl hs (C.dec hd) _ r) g
theorem g_laload (C : Cx w l Z own bytes mx rt nm rm n0) {a : Addr} {kA : ClassId} {z j : Int32} {vs : List Value} {dv : Value} {x : Int64} (hd : decode bytes pc = .ok (.laload, 1)) (hs : st = .int j :: .ref a :: rest) (A : Arv Z h a kA .long z vs dv) (q1 : ¬ j < 0) (q2 : j < z) (hv : vs.getD j.toNatClampNeg dv = .long x) (hp : pc + 1 = pc') (g : G w Q h k n pc' Ls (.long x :: rest)) : G w Q h k n pc Ls st := by
  subst hp; intro T locs X eT N
  obtain ⟨cl, Ar, hi, hg⟩ := arv_inb A q1 q2
  rw [hv] at hg
  exact G.to X eT N (fun t r => X.laload C.ex (j := j) (v := .long x) (by rw [eT]; exact Ar.1) (State.isArrayOf_alike C.hZ.alike Ar.2.1) Ar.2.2 hi hg (g := mkF w.m pc Ls st) rfl hs (C.dec hd) _ r) g
theorem g_baload (C : Cx w l Z own bytes mx rt nm rm n0) {a : Addr} {kA : ClassId} {z j : Int32} {vs : List Value} {dv : Value} {x : Int32} (hd : decode bytes pc = .ok (.baload, 1)) (hs : st = .int j :: .ref a :: rest) (A : Arv Z h a kA .byte z vs dv) (q1 : ¬ j < 0) (q2 : j < z) (hv : vs.getD j.toNatClampNeg dv = .int x) (hp : pc + 1 = pc') (g : G w Q h k n pc' Ls (.int x :: rest)) : G w Q h k n pc Ls st := by
  subst hp; intro T locs X eT N
  obtain ⟨cl, Ar, hi, hg⟩ := arv_inb A q1 q2
  rw [hv] at hg
  exact G.to X eT N (fun t r => X.baloadBytes C.ex (j := j) (v := .int x) (by rw [eT]; exact Ar.1) (State.isArrayOf_alike C.hZ.alike Ar.2.1) Ar.2.2 hi hg (g := mkF w.m pc Ls st) rfl hs (C.dec hd) _ r) g
theorem g_aaload (C : Cx w l Z own bytes mx rt nm rm n0) {a : Addr} {kA : ClassId} {ty : FieldType} {z j : Int32} {vs : List Value} {dv x : Value} (hd : decode bytes pc = .ok (.aaload, 1)) (hs : st = .int j :: .ref a :: rest) (A : Arv Z h a kA ty z vs dv) (hty : ty.isReference = true) (q1 : ¬ j < 0) (q2 : j < z) (hv : vs.getD j.toNatClampNeg dv = x) (hp : pc + 1 = pc') (g : G w Q h k n pc' Ls (x :: rest)) : G w Q h k n pc Ls st := by
  subst hp; intro T locs X eT N
  obtain ⟨cl, Ar, hi, hg⟩ := arv_inb A q1 q2
  rw [hv] at hg
  exact G.to X eT N (fun t r => X.aaload C.ex (j := j) (v := x) (by rw [eT]; exact Ar.1) (State.isArrayOf_alike C.hZ.alike Ar.2.1) hty Ar.2.2 hi hg (g := mkF w.m pc Ls st) rfl hs (C.dec hd) _ r) g
theorem g_alen (C : Cx w l Z own bytes mx rt nm rm n0) {a : Addr} {kA : ClassId} {ty : FieldType} {z : Int32} {vs : List Value} {dv : Value} (hd : decode bytes pc = .ok (.arraylength, 1)) (hs : st = .ref a :: rest) (A : Arv Z h a kA ty z vs dv) (hp : pc + 1 = pc') (g : G w Q h k n pc' Ls (.int z :: rest)) : G w Q h k n pc Ls st := by
  subst hp; intro T locs X eT N
  obtain ⟨cl, Ar, -, S, q3, -, -⟩ := A
  exact G.to X eT N (fun t r => X.arraylength C.ex (by rw [eT]; exact Ar.1) (State.isArrayOf_alike C.hZ.alike Ar.2.1) (g := mkF w.m pc Ls st) rfl hs (C.dec hd) _ (by rw [len_of S q3]; exact r)) g

theorem g_iastore (C : Cx w l Z own bytes mx rt nm rm n0) {a : Addr} {kA : ClassId} {z j : Int32} {vs : List Value} {dv : Value} {x : Int32} (hd : decode bytes pc = .ok (.iastore, 1)) (hs : st = .int x :: .int j :: .ref a :: rest) (A : Arv Z h a kA .int z vs dv) (q1 : ¬ j < 0) (q2 : j < z) (ge : n0 ≤ a) (hp : pc + 1 = pc')
    (g : ∀ h', Wr h h' a j.toNatClampNeg (.int x) → G w Q h' k n pc' Ls rest) : G w Q h k n pc Ls st := by
  subst hp; intro T locs X eT N
  obtain ⟨cl, Ar, hi, -⟩ := arv_inb A q1 q2
  obtain ⟨T', h', X', e', W, s'⟩ := stI X C.ex C.hZ eT Ar (j := j) hi (g := mkF w.m pc Ls st) rfl hs (C.dec hd)
  exact G.to X' e' (fr_snoc N (C.nn ▸ ge)) s' (g h' W)
theorem g_lastore (C : Cx w l Z own bytes mx rt nm rm n0) {a : Addr} {kA : ClassId} {z j : Int32} {vs : List Value} {dv : Value} {x : Int64} (hd : decode bytes pc = .ok (.lastore, 1)) (hs : st = .long x :: .int j :: .ref a :: rest) (A : Arv Z h a kA .long z vs dv) (q1 : ¬ j < 0) (q2 : j < z) (ge : n0 ≤ a) (hp : pc + 1 = pc')
    (g : ∀ h', Wr h h' a j.toNatClampNeg (.long x) → G w Q h' k n pc' Ls rest) : G w Q h k n pc Ls st := by
  subst hp; intro T locs X eT N
  obtain ⟨cl, Ar, hi, -⟩ := arv_inb A q1 q2
  obtain ⟨T', h', X', e', W, s'⟩ := stJ X C.ex C.hZ eT Ar (j := j) hi (g := mkF w.m pc Ls st) rfl hs (C.dec hd)
  exact G.to X' e' (fr_snoc N (C.nn ▸ ge)) s' (g h' W)
theorem g_bastore (C : Cx w l Z own bytes mx rt nm rm n0) {a : Addr} {kA : ClassId} {z j : Int32} {vs : List Value} {dv : Value} {x : Int32} (hd : decode bytes pc = .ok (.bastore, 1)) (hs : st = .int x :: .int j :: .ref a :: rest) (A : Arv Z h a kA .byte z vs dv) (q1 : ¬ j < 0) (q2 : j < z) (ge : n0 ≤ a) (hp : pc + 1 = pc')
    (g : ∀ h', Wr h h' a j.toNatClampNeg (.int (nar .byte x)) → G w Q h' k n pc' Ls rest) : G w Q h k n pc Ls st := by
  subst hp; intro T locs X eT N
  obtain ⟨cl, Ar, hi, -⟩ := arv_inb A q1 q2
  obtain ⟨T', h', X', e', W, s'⟩ := stB X C.ex C.hZ eT Ar (j := j) hi (g := mkF w.m pc Ls st) rfl hs (C.dec hd)
  exact G.to X' e' (fr_snoc N (C.nn ▸ ge)) s' (g h' W)
theorem g_aastore (C : Cx w l Z own bytes mx rt nm rm n0) {a : Addr} {kA : ClassId} {ty : FieldType} {z j : Int32} {vs : List Value} {dv x : Value} (hd : decode bytes pc = .ok (.aastore, 1)) (hs : st = x :: .int j :: .ref a :: rest) (A : Arv Z h a kA ty z vs dv) (hty : ty.isReference = true) (F : Sto Z h a x) (q1 : ¬ j < 0) (q2 : j < z) (ge : n0 ≤ a) (hp : pc + 1 = pc')
    (g : ∀ h', Wr h h' a j.toNatClampNeg x → G w Q h' k n pc' Ls rest) : G w Q h k n pc Ls st := by
  subst hp; intro T locs X eT N
  obtain ⟨cl, Ar, hi, -⟩ := arv_inb A q1 q2
  obtain ⟨T', h', X', e', W, s'⟩ := stR X C.ex C.hZ eT Ar (j := j) hi hty F (g := mkF w.m pc Ls st) rfl hs (C.dec hd)
  exact G.to X' e' (fr_snoc N (C.nn ▸ ge)) s' (g h' W)
/-! returns -/
theorem g_ret (C : Cx w l Z own bytes mx (some t) nm rm n0) {v : Value} {i : Instr} (hd : decode bytes pc = .ok (i, 1)) (hs : st = v :: rest) (hn : narrow t v = v)
    (hi : (i = .ireturn ∧ (t = .int ∨ t = .boolean ∨ t = .byte ∨ t = .char ∨ t = .short) ∧ ∃ z, v = .int z) ∨ (i = .lreturn ∧ t = .long ∧ ∃ z, v = .long z) ∨ (i = .dreturn ∧ t = .double ∧ ∃ z, v = .double z) ∨ (i = .freturn ∧ t = .float ∧ ∃ z, v = .float z) ∨ (i = .areturn ∧ t.isReference = true ∧ v.isRef = true))
    (hk : k ≤ rm.cells) (hnn : n ≤ rm.slots) (q : Q (some v) h) : G w Q h k n pc Ls st := by
  subst hs; intro T locs X eT N
  obtain ⟨fs, hr, hrun, hended, hW, hsame⟩ := X.leave (v := some v) (fun h => by rw [C.ret] at h; cases h) C.lk
  exact ⟨_, _, retOut X C.ex C.ret hn hi (C.dec hd) hr, hrun, hended, _, locs, rfl, ⟨by show Q _ T.heap; rw [eT]; exact q, N⟩, C.fn _ _ _ ⟨⟨_, rfl⟩, hW, hsame.mono (by rw [C.ro]; exact hk) (by rw [C.ro]; exact hnn)⟩⟩
theorem g_ireturn (C : Cx w l Z own bytes mx (some .int) nm rm n0) {z : Int32} (hd : decode bytes pc = .ok (.ireturn, 1)) (hs : st = .int z :: rest) (hk : k ≤ rm.cells) (hnn : n ≤ rm.slots) (q : Q (some (.int z)) h) : G w Q h k n pc Ls st :=
  g_ret C hd hs rfl (Or.inl ⟨rfl, Or.inl rfl, z, rfl⟩) hk hnn q
theorem g_zreturn (C : Cx w l Z own bytes mx (some .boolean) nm rm n0) {z : Int32} (hd : decode bytes pc = .ok (.ireturn, 1)) (hs : st = .int z :: rest) (hn : narrow .boolean (.int z) = .int z) (hk : k ≤ rm.cells) (hnn : n ≤ rm.slots) (q : Q (some (.int z)) h) : G w Q h k n pc Ls st :=
  g_ret C hd hs hn (Or.inl ⟨rfl, Or.inr (Or.inl rfl), z, rfl⟩) hk hnn q
theorem g_breturn (C : Cx w l Z own bytes mx (some .byte) nm rm n0) {z : Int32} (hd : decode bytes pc = .ok (.ireturn, 1)) (hs : st = .int z :: rest) (hn : narrow .byte (.int z) = .int z) (hk : k ≤ rm.cells) (hnn : n ≤ rm.slots) (q : Q (some (.int z)) h) : G w Q h k n pc Ls st :=
  g_ret C hd hs hn (Or.inl ⟨rfl, Or.inr (Or.inr (Or.inl rfl)), z, rfl⟩) hk hnn q
theorem g_lreturn (C : Cx w l Z own bytes mx (some .long) nm rm n0) {z : Int64} (hd : decode bytes pc = .ok (.lreturn, 1)) (hs : st = .long z :: rest) (hk : k ≤ rm.cells) (hnn : n ≤ rm.slots) (q : Q (some (.long z)) h) : G w Q h k n pc Ls st :=
  g_ret C hd hs rfl (Or.inr (Or.inl ⟨rfl, rfl, z, rfl⟩)) hk hnn q
theorem g_areturn (C : Cx w l Z own bytes mx (some t) nm rm n0) {v : Value} (hd : decode bytes pc = .ok (.areturn, 1)) (hs : st = v :: rest) (ht : t.isReference = true) (hv : v.isRef = true) (hn : narrow t v = v) (hk : k ≤ rm.cells) (hnn : n ≤ rm.slots) (q : Q (some v) h) : G w Q h k n pc Ls st :=
  g_ret C hd hs hn (Or.inr (Or.inr (Or.inr (Or.inr ⟨rfl, ht, hv⟩)))) hk hnn q
theorem g_return (C : Cx w l Z own bytes mx none nm rm n0) (hd : decode bytes pc = .ok (.return_, 1)) (hs : st = []) (hk : k ≤ rm.cells) (hnn : n ≤ rm.slots) (q : Q none h) : G w Q h k n pc Ls st := by
  subst hs; intro T locs X eT N
  obtain ⟨fs, hr, hrun, hended, hW, hsame⟩ := X.leave (v := none) (fun _ => rfl) C.lk
  exact ⟨_, _, X.returnOut C.ex C.ret (C.dec hd) hr, hrun, hended, _, locs, rfl, ⟨by show Q _ T.heap; rw [eT]; exact q, N⟩, C.fn _ _ _ ⟨⟨_, rfl⟩, hW, hsame.mono (by rw [C.ro]; exact hk) (by rw [C.ro]; exact hnn)⟩⟩
/-! calls by the callee's contract -/
theorem g_fin {rm' : Room} {Q' : Option Value → Heap → Prop} {T : State} {locs : List Loc} {as : Array Value} {v : Option Value} {B : Pt} {A : Pt} (C : Cx w l Z own bytes mx rt nm rm n0) (hA : A.locs = locs ∧ A.cells = k ∧ A.slots = n)
    (X' : Stand w.p w.l w.e w.R w.s w.m w.args w.below w.meth w.c B.U B.locs B.cells B.slots) (hQ : ∃ L, (Q' v B.U.heap ∧ Fr n0 L) ∧ B.locs = A.locs ++ L ∧ B.cells = A.cells + rm'.cells ∧ B.slots = A.slots + rm'.slots) (N : Fr w.n0 locs)
    (g : ∀ v h', Q' v h' → G w Q h' (k + rm'.cells) (n + rm'.slots) pc' Ls (psh v rest)) (s' : ∀ t, Steps w.p.tables w.e w.below (B.U.setTop (mkF w.m pc' Ls (v.toList ++ rest))) t → Steps w.p.tables w.e w.below (T.setTop (mkF w.m pc Ls st)) t) : Ends w Q (T.setTop (mkF w.m pc Ls st)) := by
  obtain ⟨T', L', k', n'⟩ := B
  obtain ⟨L, ⟨hq, hL⟩, e1, e2, e3⟩ := hQ
  obtain ⟨a1, a2, a3⟩ := hA
  dsimp only [Pt.U, Pt.locs, Pt.cells, Pt.slots] at X' hq e1 e2 e3 s' a1 a2 a3
  subst a1 a2 a3 e1 e2 e3
  rw [psh_eq] at s'
  exact G.to X' rfl (N.app (C.nn ▸ hL)) s' (g v _ hq)
theorem g_callS (C : Cx w l Z own bytes mx rt nm rm n0) {y : MethodName} {i mL : Nat} {bs : ByteArray} {rt' : Option FieldType} {rm' : Room} {Q' : Option Value → Heap → Prop} {argsL : List Value} {ps : List FieldType} {r : Option FieldType}
    (w1 : (Jvm.Cond.methodLink own i y).before a0 Z = true) (w2 : (Jvm.Cond.static y).before a0 Z = true) (w3 : (Jvm.Cond.initialized y.cls).before a0 Z = true) (w4 : (Jvm.Cond.code y bs mL rt').before a0 Z = true) (hy : y.cls ≠ "java/lang/invoke/MethodHandle" ∧ y.cls ≠ "java/lang/invoke/VarHandle")
    (hd : decode bytes pc = .ok (.invokestatic i, 3)) (pd : parseMethodDescriptor y.desc = some ⟨ps, r⟩) (hlen : argsL.length = ps.length) (hst : st = argsL.reverse ++ rest) (hz : Ls.size = mx)
    (K : Con l Z y bs mL rt' rm' argsL.toArray h n0 Q') (hf : rm'.frames + 1 ≤ rm.frames) (hl : (rest.map fun v => v.category).sum + (mL + 11) + rm'.locals ≤ rm.locals) (hc : k' ≤ rm.cells) (hn : n' ≤ rm.slots) (ek : k + rm'.cells = k') (en : n + rm'.slots = n') (hp : pc + 3 = pc')
    (g : ∀ v h', Q' v h' → G w Q h' k' n' pc' Ls (psh v rest)) : G w Q h k n pc Ls st := by
  subst hp ek en; intro T locs X eT N
  have hl0 : w.l = l := C.1
  subst hl0
  obtain ⟨v, vm₁, B, -, X', hQ, s'⟩ := Jvm.LawKit.callS X C.ex C.ow (mvT C.hZ w1) (mvT C.hZ w2) (mvT C.hZ w3) (mvT C.hZ w4) hy (backOf (W := (rest.map fun v => v.category).sum) (Q := fun v h L => Q' v h ∧ Fr n0 L) (K []) C.hZ w4 w3 (by rw [C.ro]; exact hf) (by rw [C.ro]; exact hl)) (g := mkF w.m pc Ls st) rfl (hz.trans C.ml.symm) (argsL := argsL) (rest := rest) (lenOf pd hlen) hst (by show 2 * 0 + _ ≤ _; omega) (C.dec hd) (fun _ _ => ⟨rfl, eT, by rw [C.ro]; exact hc, by rw [C.ro]; exact hn⟩)
  exact g_fin (T := T) (as := argsL.toArray) (A := (⟨T.setVm vm₁, locs, k, n⟩ : Pt)) C ⟨rfl, rfl, rfl⟩ X' hQ N g s'
theorem g_special (C : Cx w l Z own bytes mx rt nm rm n0) {y : MethodName} {i mL : Nat} {bs : ByteArray} {rm' : Room} {Q' : Option Value → Heap → Prop} {a : Addr} {argsL : List Value} {ps : List FieldType} {r : Option FieldType}
    (w1 : (Jvm.Cond.methodLink own i y).before a0 Z = true) (w2 : (Jvm.Cond.instanceMethod y).before a0 Z = true) (w3 : (Jvm.Cond.initialized y.cls).before a0 Z = true) (w4 : (Jvm.Cond.code y bs mL none).before a0 Z = true) (hy : y.cls ≠ "java/lang/invoke/MethodHandle" ∧ y.cls ≠ "java/lang/invoke/VarHandle") (hy1 : y.name = "<init>")
    (hd : decode bytes pc = .ok (.invokespecial i, 3)) (pd : parseMethodDescriptor y.desc = some ⟨ps, r⟩) (hlen : argsL.length = ps.length) (hst : st = argsL.reverse ++ .ref a :: rest) (hz : Ls.size = mx)
    (K : Con l Z y bs mL none rm' (.ref a :: argsL).toArray h n0 Q') (hf : rm'.frames + 1 ≤ rm.frames) (hl : (rest.map fun v => v.category).sum + (mL + 11) + rm'.locals ≤ rm.locals) (hc : k' ≤ rm.cells) (hn : n' ≤ rm.slots) (ek : k + rm'.cells = k') (en : n + rm'.slots = n') (hp : pc + 3 = pc')
    (g : ∀ v h', Q' v h' → G w Q h' k' n' pc' Ls (psh v rest)) : G w Q h k n pc Ls st := by
  subst hp ek en; intro T locs X eT N
  have hl0 : w.l = l := C.1
  subst hl0
  obtain ⟨v, vm₁, B, -, X', hQ, s'⟩ := X.specialBack C.ex hy1 C.ow (mvT C.hZ w1) (mvT C.hZ w2) (mvT C.hZ w4) hy (backOf (W := (rest.map fun v => v.category).sum) (Q := fun v h L => Q' v h ∧ Fr n0 L) (K []) C.hZ w4 w3 (by rw [C.ro]; exact hf) (by rw [C.ro]; exact hl)) (g := mkF w.m pc Ls st) rfl (hz.trans C.ml.symm) (Steps.refl _) (a := a) (argsL := argsL) (rest := rest) (lenOf pd hlen) hst (by show 2 * 0 + _ ≤ _; omega) (C.dec hd) (fun _ _ => ⟨rfl, eT, by rw [C.ro]; exact hc, by rw [C.ro]; exact hn⟩)
  exact g_fin (T := T) (as := argsL.toArray) (A := (⟨T.setVm vm₁, locs, k, n⟩ : Pt)) C ⟨rfl, rfl, rfl⟩ X' hQ N g (fun t r => s'.trans r)
theorem g_virtual (C : Cx w l Z own bytes mx rt nm rm n0) {y z : MethodName} {B : String} {i mL : Nat} {bs : ByteArray} {rt' : Option FieldType} {rm' : Room} {Q' : Option Value → Heap → Prop} {a : Addr} {argsL : List Value} {ps : List FieldType} {r : Option FieldType}
    (w1 : (Jvm.Cond.methodLink own i y).before a0 Z = true) (w2 : (Jvm.Cond.declares y).before a0 Z = true) (nf : ∀ {s : State}, Z.Warmed39 s.vm → NotFace s y) (ws : (Jvm.Cond.selects B y z).before a0 Z = true) (w5 : (Jvm.Cond.instanceMethod z).before a0 Z = true) (w3 : (Jvm.Cond.initialized z.cls).before a0 Z = true) (w4 : (Jvm.Cond.code z bs mL rt').before a0 Z = true) (hy : y.cls ≠ "java/lang/invoke/MethodHandle" ∧ y.cls ≠ "java/lang/invoke/VarHandle")
    (hd : decode bytes pc = .ok (.invokevirtual i, 3)) (pd : parseMethodDescriptor y.desc = some ⟨ps, r⟩) (hlen : argsL.length = ps.length) (hst : st = argsL.reverse ++ .ref a :: rest) (hz : Ls.size = mx) (E : Exa Z h a B)
    (K : Con l Z z bs mL rt' rm' (.ref a :: argsL).toArray h n0 Q') (hf : rm'.frames + 1 ≤ rm.frames) (hl : (rest.map fun v => v.category).sum + (mL + 11) + rm'.locals ≤ rm.locals) (hc : k' ≤ rm.cells) (hn : n' ≤ rm.slots) (ek : k + rm'.cells = k') (en : n + rm'.slots = n') (hp : pc + 3 = pc')
    (g : ∀ v h', Q' v h' → G w Q h' k' n' pc' Ls (psh v rest)) : G w Q h k n pc Ls st := by
  subst hp ek en; intro T locs X eT N
  have hl0 : w.l = l := C.1
  subst hl0
  obtain ⟨cq, kq, q1, q2, q3⟩ := isOf C.hZ eT E
  obtain ⟨v, vm₁, B, -, X', hQ, s'⟩ := X.virtualBack C.ex C.ow (mvT C.hZ w1) (mvT C.hZ w2) (nf C.hZ) (mvT C.hZ ws) (mvT C.hZ w5) hy (backOf (W := (rest.map fun v => v.category).sum) (Q := fun v h L => Q' v h ∧ Fr n0 L) (K []) C.hZ w4 w3 (by rw [C.ro]; exact hf) (by rw [C.ro]; exact hl)) q1 q3 (g := mkF w.m pc Ls st) rfl (hz.trans C.ml.symm) (Steps.refl _) (argsL := argsL) (rest := rest) (lenOf pd hlen) hst (by show 2 * 0 + _ ≤ _; omega) (C.dec hd) (fun _ _ => ⟨rfl, eT, by rw [C.ro]; exact hc, by rw [C.ro]; exact hn⟩)
  exact g_fin (T := T) (as := argsL.toArray) (A := (⟨T.setVm vm₁, locs, k, n⟩ : Pt)) C ⟨rfl, rfl, rfl⟩ X' hQ N g (fun t r => s'.trans r)
theorem nfSel {y : MethodName} {B : String} (ws : (Jvm.Cond.selects B y y).before a0 Z = true) : ∀ {s : State}, Z.Warmed39 s.vm → NotFace s y := fun hZ => notFace_of_selects (args := #[]) (mvT hZ ws)
theorem g_virtualUp (C : Cx w l Z own bytes mx rt nm rm n0) {y z : MethodName} {B owner : String} {i mL : Nat} {bs : ByteArray} {rt' : Option FieldType} {rm' : Room} {Q' : Option Value → Heap → Prop} {a : Addr} {argsL : List Value} {ps : List FieldType} {r : Option FieldType}
    (w1 : (Jvm.Cond.methodLink own i y).before a0 Z = true) (wm : (Jvm.Cond.sameMethod y.cls owner y.name y.desc).before a0 Z = true) (w2 : (Jvm.Cond.declares ⟨owner, y.name, y.desc⟩).before a0 Z = true) (ho : owner ≠ "java/lang/invoke/MethodHandle" ∧ owner ≠ "java/lang/invoke/VarHandle") (ws : (Jvm.Cond.selects B y z).before a0 Z = true) (w5 : (Jvm.Cond.instanceMethod z).before a0 Z = true) (w3 : (Jvm.Cond.initialized z.cls).before a0 Z = true) (w4 : (Jvm.Cond.code z bs mL rt').before a0 Z = true)
    (hd : decode bytes pc = .ok (.invokevirtual i, 3)) (pd : parseMethodDescriptor y.desc = some ⟨ps, r⟩) (hlen : argsL.length = ps.length) (hst : st = argsL.reverse ++ .ref a :: rest) (hz : Ls.size = mx) (E : Exa Z h a B)
    (K : Con l Z z bs mL rt' rm' (.ref a :: argsL).toArray h n0 Q') (hf : rm'.frames + 1 ≤ rm.frames) (hl : (rest.map fun v => v.category).sum + (mL + 11) + rm'.locals ≤ rm.locals) (hc : k' ≤ rm.cells) (hn : n' ≤ rm.slots) (ek : k + rm'.cells = k') (en : n + rm'.slots = n') (hp : pc + 3 = pc')
    (g : ∀ v h', Q' v h' → G w Q h' k' n' pc' Ls (psh v rest)) : G w Q h k n pc Ls st := by
  subst hp ek en; intro T locs X eT N
  have hl0 : w.l = l := C.1
  subst hl0
  obtain ⟨cq, kq, q1, q2, q3⟩ := isOf C.hZ eT E
  obtain ⟨v, vm₁, B, -, X', hQ, s'⟩ := X.virtualBackUp C.ex C.ow (mvT C.hZ w1) (mvT C.hZ wm) (mvT C.hZ w2) ho (mvT C.hZ ws) (mvT C.hZ w5) (backOf (W := (rest.map fun v => v.category).sum) (Q := fun v h L => Q' v h ∧ Fr n0 L) (K []) C.hZ w4 w3 (by rw [C.ro]; exact hf) (by rw [C.ro]; exact hl)) q1 q3 (g := mkF w.m pc Ls st) rfl (hz.trans C.ml.symm) (Steps.refl _) (argsL := argsL) (rest := rest) (lenOf pd hlen) hst (by show 2 * 0 + _ ≤ _; omega) (C.dec hd) (fun _ _ => ⟨rfl, eT, by rw [C.ro]; exact hc, by rw [C.ro]; exact hn⟩)
  exact g_fin (T := T) (as := argsL.toArray) (A := (⟨T.setVm vm₁, locs, k, n⟩ : Pt)) C ⟨rfl, rfl, rfl⟩ X' hQ N g (fun t r => s'.trans r)
theorem g_interface (C : Cx w l Z own bytes mx rt nm rm n0) {y z : MethodName} {B : String} {count : Nat} {i mL : Nat} {bs : ByteArray} {rt' : Option FieldType} {rm' : Room} {Q' : Option Value → Heap → Prop} {a : Addr} {argsL : List Value} {ps : List FieldType} {r : Option FieldType}
    (w1 : (Jvm.Cond.methodLink own i y).before a0 Z = true) (w2 : (Jvm.Cond.declares y).before a0 Z = true) (wf : (Jvm.Cond.interfaceMethod y.cls y.cls y.name y.desc).before a0 Z = true) (hfa : ((Jvm.Cond.interfaceMethod y.cls y.cls y.name y.desc).onTables && (Jvm.Cond.interfaceMethod y.cls y.cls y.name y.desc).keepsFace) = true) (ws : (Jvm.Cond.selects B y z).before a0 Z = true) (w5 : (Jvm.Cond.instanceMethod z).before a0 Z = true) (wp : (Jvm.Cond.publicMethod z).before a0 Z = true) (wu : (Jvm.Cond.unhidden B y.name y.desc).before a0 Z = true) (wk : (Jvm.Cond.castable B y.cls).before a0 Z = true) (w3 : (Jvm.Cond.initialized z.cls).before a0 Z = true) (w4 : (Jvm.Cond.code z bs mL rt').before a0 Z = true) (hy : y.cls ≠ "java/lang/invoke/MethodHandle" ∧ y.cls ≠ "java/lang/invoke/VarHandle")
    (hd : decode bytes pc = .ok (.invokeinterface i count, 5)) (pd : parseMethodDescriptor y.desc = some ⟨ps, r⟩) (hlen : argsL.length = ps.length) (hst : st = argsL.reverse ++ .ref a :: rest) (hz : Ls.size = mx) (E : Exa Z h a B)
    (K : Con l Z z bs mL rt' rm' (.ref a :: argsL).toArray h n0 Q') (hf : rm'.frames + 1 ≤ rm.frames) (hl : (rest.map fun v => v.category).sum + (mL + 11) + rm'.locals ≤ rm.locals) (hc : k' ≤ rm.cells) (hn : n' ≤ rm.slots) (ek : k + rm'.cells = k') (en : n + rm'.slots = n') (hp : pc + 5 = pc')
    (g : ∀ v h', Q' v h' → G w Q h' k' n' pc' Ls (psh v rest)) : G w Q h k n pc Ls st := by
  subst hp ek en; intro T locs X eT N
  have hl0 : w.l = l := C.1
  subst hl0
  obtain ⟨cq, kq, q1, q2, q3⟩ := isOf C.hZ eT E
  obtain ⟨v, vm₁, B, -, X', hQ, s'⟩ := X.interfaceBack C.ex C.ow (mvT C.hZ w1) (mvT C.hZ w2) (mvT C.hZ wf hfa) (mvT C.hZ ws) (mvT C.hZ w5) (mvT C.hZ wp) (mvT C.hZ wu) (mvT C.hZ wk) hy (backOf (W := (rest.map fun v => v.category).sum) (Q := fun v h L => Q' v h ∧ Fr n0 L) (K []) C.hZ w4 w3 (by rw [C.ro]; exact hf) (by rw [C.ro]; exact hl)) q1 q2 q3 (g := mkF w.m pc Ls st) rfl (hz.trans C.ml.symm) (Steps.refl _) (argsL := argsL) (rest := rest) (lenOf pd hlen) hst (by show 2 * 0 + _ ≤ _; omega) (C.dec hd) (fun _ _ => ⟨rfl, eT, by rw [C.ro]; exact hc, by rw [C.ro]; exact hn⟩)
  exact g_fin (T := T) (as := argsL.toArray) (A := (⟨T.setVm vm₁, locs, k, n⟩ : Pt)) C ⟨rfl, rfl, rfl⟩ X' hQ N g (fun t r => s'.trans r)
theorem g_private (C : Cx w l Z own bytes mx rt nm rm n0) {y : MethodName} {B : String} {kk i mL : Nat} {bs : ByteArray} {rt' : Option FieldType} {rm' : Room} {Q' : Option Value → Heap → Prop} {a : Addr} {argsL : List Value} {ps : List FieldType} {r : Option FieldType}
    (w1 : (Jvm.Cond.methodLink own i y).before a0 Z = true) (w5 : (Jvm.Cond.instanceMethod y).before a0 Z = true) (wi : (Jvm.Cond.instantiable y.cls kk).before a0 Z = true) (wp : (Jvm.Cond.privateMethod y).before a0 Z = true) (w3 : (Jvm.Cond.initialized y.cls).before a0 Z = true) (w4 : (Jvm.Cond.code y bs mL rt').before a0 Z = true) (hy : y.cls ≠ "java/lang/invoke/MethodHandle" ∧ y.cls ≠ "java/lang/invoke/VarHandle")
    (hd : decode bytes pc = .ok (.invokevirtual i, 3)) (pd : parseMethodDescriptor y.desc = some ⟨ps, r⟩) (hlen : argsL.length = ps.length) (hst : st = argsL.reverse ++ .ref a :: rest) (hz : Ls.size = mx) (E : Exa Z h a B)
    (K : Con l Z y bs mL rt' rm' (.ref a :: argsL).toArray h n0 Q') (hf : rm'.frames + 1 ≤ rm.frames) (hl : (rest.map fun v => v.category).sum + (mL + 11) + rm'.locals ≤ rm.locals) (hc : k' ≤ rm.cells) (hn : n' ≤ rm.slots) (ek : k + rm'.cells = k') (en : n + rm'.slots = n') (hp : pc + 3 = pc')
    (g : ∀ v h', Q' v h' → G w Q h' k' n' pc' Ls (psh v rest)) : G w Q h k n pc Ls st := by
  subst hp ek en; intro T locs X eT N
  have hl0 : w.l = l := C.1
  subst hl0
  obtain ⟨cq, q1, q2⟩ := E.cell
  have wi' : (Jvm.Cond.instantiable y.cls kk).before w.args w.s = true := mvT C.hZ wi
  obtain ⟨c2, k2, i1, i2, -, i4, -⟩ := Cond.instantiable_spec wi'
  have hni : k2.isInterface = false := (Bool.or_eq_false_iff.mp i4).1
  have hpv := Cond.privateMethod_at (mvP C.hZ wp (args := w.args))
  obtain ⟨v, vm₁, B, -, X', hQ, s'⟩ := X.privateBack C.ex C.ow (mvT C.hZ w1) (mvT C.hZ w5) (selects_self_of_private i1 i2 hni hpv (mvT C.hZ w5) hy) hpv (mvT C.hZ w4) hy (backOf (W := (rest.map fun v => v.category).sum) (Q := fun v h L => Q' v h ∧ Fr n0 L) (K []) C.hZ w4 w3 (by rw [C.ro]; exact hf) (by rw [C.ro]; exact hl)) (g := mkF w.m pc Ls st) rfl (hz.trans C.ml.symm) (Steps.refl _) (a := a) (by rw [eT]; exact q1) q2 (argsL := argsL) (rest := rest) (lenOf pd hlen) hst (by show 2 * 0 + _ ≤ _; omega) (C.dec hd) (fun _ _ => ⟨rfl, eT, by rw [C.ro]; exact hc, by rw [C.ro]; exact hn⟩)
  exact g_fin (T := T) (as := argsL.toArray) (A := (⟨T.setVm vm₁, locs, k, n⟩ : Pt)) C ⟨rfl, rfl, rfl⟩ X' hQ N g (fun t r => s'.trans r)
theorem g_lswHit (C : Cx w l Z own bytes mx rt nm rm n0) {df : Int} {prs : Array (Int × Int)} {len : Nat} {a o : Int} {i : Int32} (hd : decode bytes pc = .ok (.lookupswitch df prs, len)) (hs : st = .int i :: rest) (hso : (prs.toList.zip (prs.toList.drop 1)).all (fun (a, next) => a.1 < next.1) = true) (hf : prs.find? (·.1 == i.toInt) = some (a, o)) (ho : 0 ≤ (pc : Int) + o) (hp : ((pc : Int) + o).toNat = pc') (g : G w Q h k n pc' Ls rest) : G w Q h k n pc Ls st := by
  subst hp; exact g.adv fun T locs X _ t r => X.lookupswitchHit C.ex (g := mkF w.m pc Ls st) rfl hs (C.dec hd) hso hf ho t r
theorem g_lswMiss (C : Cx w l Z own bytes mx rt nm rm n0) {df : Int} {prs : Array (Int × Int)} {len : Nat} {i : Int32} (hd : decode bytes pc = .ok (.lookupswitch df prs, len)) (hs : st = .int i :: rest) (hso : (prs.toList.zip (prs.toList.drop 1)).all (fun (a, next) => a.1 < next.1) = true) (hf : prs.find? (·.1 == i.toInt) = none) (ho : 0 ≤ (pc : Int) + df) (hp : ((pc : Int) + df).toNat = pc') (g : G w Q h k n pc' Ls rest) : G w Q h k n pc Ls st := by
  subst hp; exact g.adv fun T locs X _ t r => X.lookupswitchMiss C.ex (g := mkF w.m pc Ls st) rfl hs (C.dec hd) hso hf ho t r
end Gs
theorem wd {Z : State} {a0 : Array Value} (hw : ∀ d ∈ tables_1, d.before a0 Z = true) (i : Nat) {d : Jvm.Cond} (e : tables_1[i]? = some d) : d.before a0 Z = true := hw _ (List.mem_of_getElem? e)
theorem own_fldInt {args : Array Value} {s : State} {t : Term} {a : Addr} {C f d : String} {k : Int32} (ev : t.eval args s none [] s = some (.ref a)) (h : (Jvm.Cond.eq (.field t C f d) (.int k)).value args s none s [] = some true) : Fld s s.heap a C f d (.int k) := by
  obtain ⟨x, y, hx, hy, k1, k2⟩ := cmp_v (Or.inl h)
  cases (Term.int_eval k).symm.trans hy
  obtain ⟨z, rfl⟩ : ∃ z, x = .int z := by simpa [Kin] using k2
  have e : z = k := by simpa [Jvm.Cond.value, hx, hy] using h
  subst e
  rw [fld_at ev] at hx
  exact Fld.start hx
theorem own_fldLong {args : Array Value} {s : State} {t : Term} {a : Addr} {C f d : String} {k : Int64} (ev : t.eval args s none [] s = some (.ref a)) (h : (Jvm.Cond.eq (.field t C f d) (.long k)).value args s none s [] = some true) : Fld s s.heap a C f d (.long k) := by
  obtain ⟨x, y, hx, hy, k1, k2⟩ := cmp_v (Or.inl h)
  cases (long_at k).symm.trans hy
  obtain ⟨z, rfl⟩ : ∃ z, x = .long z := by simpa [Kin] using k2
  have e : z = k := by simpa [Jvm.Cond.value, hx, hy] using h
  subst e
  rw [fld_at ev] at hx
  exact Fld.start hx
theorem own_staLong {args : Array Value} {s : State} {t : Term} {k : Int64} (h : (Jvm.Cond.eq t (.long k)).value args s none s [] = some true) : t.eval args s none [] s = some (.long k) := by
  obtain ⟨x, y, hx, hy, k1, k2⟩ := cmp_v (Or.inl h)
  cases (long_at k).symm.trans hy
  obtain ⟨z, rfl⟩ : ∃ z, x = .long z := by simpa [Kin] using k2
  have e : z = k := by simpa [Jvm.Cond.value, hx, hy] using h
  subst e
  exact hx
theorem own_staInt {args : Array Value} {s : State} {t : Term} {k : Int32} (h : (Jvm.Cond.eq t (.int k)).value args s none s [] = some true) : t.eval args s none [] s = some (.int k) := by
  obtain ⟨x, y, hx, hy, k1, k2⟩ := cmp_v (Or.inl h)
  cases (Term.int_eval k).symm.trans hy
  obtain ⟨z, rfl⟩ : ∃ z, x = .int z := by simpa [Kin] using k2
  have e : z = k := by simpa [Jvm.Cond.value, hx, hy] using h
  subst e
  exact hx
theorem own_ine {i j : Int32} (h : i ≠ j) : (Value.int i) ≠ .int j := fun q => h (by injection q)
theorem own_mask31 (x : Int32) : 0 ≤ (x &&& 2147483647).toInt ∧ (x &&& 2147483647).toInt < 2147483648 := by
  have := c_mask x 2147483647 31 (by decide) (by decide)
  rw [this]; omega
/-! class objects, a negative instanceof, a constructor through a nest -/
section Jdk
variable {w : Wk} {l : Launch} {Z : State} {own : String} {bytes : ByteArray} {mx : Nat} {rt : Option FieldType} {nm : String} {rm : Room} {n0 : Nat} {Q : Option Value → Heap → Prop} {h : Heap} {k n pc pc' : Nat} {Ls Ls' : Array Slot} {st rest : List Value} {a0 : Array Value} {t : FieldType} {k' n' : Nat}
theorem g_ldcMirror (C : Cx w l Z own bytes mx rt nm rm n0) {K : String} {i : Nat} {mr : Addr} (hw : (Jvm.Cond.classLink own i K).before a0 Z = true) (M : Mir Z K mr) (hd : decode bytes pc = .ok (.ldc i, 2)) (hp : pc + 2 = pc') (g : G w Q h k n pc' Ls (.ref mr :: st)) : G w Q h k n pc Ls st := by
  subst hp; intro T locs X eT N
  obtain ⟨cc, kc, m1, m2, m3, -⟩ := M
  obtain ⟨k1, q, ek⟩ := C.hZ.alike.2.2 _ _ m2
  have e1 : w.s.vm.findClass K = some cc := by rw [C.hZ.alike.findClass]; exact m1
  have e2 : k1.mirror = some mr := by rw [ek]; exact m3
  have hev : (Term.mirror K).eval w.args w.s none [] w.s = some (.ref mr) := by simp [Term.eval, e1, q, e2]
  obtain ⟨vm', X', s'⟩ := X.ldcMirror C.ex C.ow (mvT C.hZ hw) hev (g := mkF w.m pc Ls st) rfl (C.dec hd)
  exact G.to X' eT N s' g
theorem g_getClass (C : Cx w l Z own bytes mx rt nm rm n0) {K : String} {i : Nat} {a mr : Addr} (w1 : (Jvm.Cond.methodLink own i ⟨"java/lang/Object", "getClass", "()Ljava/lang/Class;"⟩).before a0 Z = true) (w2 : (Jvm.Cond.declares ⟨"java/lang/Object", "getClass", "()Ljava/lang/Class;"⟩).before a0 Z = true) (w3 : (Jvm.Cond.noSuperclass "java/lang/Object").before a0 Z = true) (w4 : (Jvm.Cond.selects K ⟨"java/lang/Object", "getClass", "()Ljava/lang/Class;"⟩ ⟨"java/lang/Object", "getClass", "()Ljava/lang/Class;"⟩).before a0 Z = true)
    (w5 : (Jvm.Cond.instanceMethod ⟨"java/lang/Object", "getClass", "()Ljava/lang/Class;"⟩).before a0 Z = true) (w6 : (Jvm.Cond.native ⟨"java/lang/Object", "getClass", "()Ljava/lang/Class;"⟩).before a0 Z = true) (hd : decode bytes pc = .ok (.invokevirtual i, 3)) (hs : st = .ref a :: rest) (hz : Ls.size = mx) (E : Exa Z h a K) (M : Mir Z K mr) (hf : 1 ≤ rm.frames) (hl : (rest.map fun v => v.category).sum + (nativeFrameWords "java/lang/Object" "getClass" 1 + 11) ≤ rm.locals) (hp : pc + 3 = pc') (g : G w Q h k n pc' Ls (.ref mr :: rest)) : G w Q h k n pc Ls st := by
  subst hp; intro T locs X eT N
  obtain ⟨T', X', e', s'⟩ := gcls X C.ex C.hZ C.ow w1 w2 w3 w4 w5 w6 eT E M (g := mkF w.m pc Ls st) rfl (hz.trans C.ml.symm) hs (C.dec hd) (by rw [C.ro]; exact hf) (W := (rest.map fun v => v.category).sum) (by show 2 * 0 + _ ≤ _; omega) (by rw [C.ro]; exact hl)
  exact G.to X' e' N s' g
theorem g_specialNest (C : Cx w l Z own bytes mx rt nm rm n0) {y : MethodName} {host : String} {i mL : Nat} {bs : ByteArray} {rm' : Room} {Q' : Option Value → Heap → Prop} {a : Addr} {argsL : List Value} {ps : List FieldType} {r : Option FieldType}
    (w1 : (Jvm.Cond.methodLinkNest own i y host).before a0 Z = true) (w2 : (Jvm.Cond.instanceMethod y).before a0 Z = true) (w3 : (Jvm.Cond.initialized y.cls).before a0 Z = true) (w4 : (Jvm.Cond.code y bs mL none).before a0 Z = true) (hy : y.cls ≠ "java/lang/invoke/MethodHandle" ∧ y.cls ≠ "java/lang/invoke/VarHandle") (hy1 : y.name = "<init>")
    (hd : decode bytes pc = .ok (.invokespecial i, 3)) (pd : parseMethodDescriptor y.desc = some ⟨ps, r⟩) (hlen : argsL.length = ps.length) (hst : st = argsL.reverse ++ .ref a :: rest) (hz : Ls.size = mx)
    (K : Con l Z y bs mL none rm' (.ref a :: argsL).toArray h n0 Q') (hf : rm'.frames + 1 ≤ rm.frames) (hl : (rest.map fun v => v.category).sum + (mL + 11) + rm'.locals ≤ rm.locals) (hc : k' ≤ rm.cells) (hn : n' ≤ rm.slots) (ek : k + rm'.cells = k') (en : n + rm'.slots = n') (hp : pc + 3 = pc')
    (g : ∀ v h', Q' v h' → G w Q h' k' n' pc' Ls (psh v rest)) : G w Q h k n pc Ls st := by
  subst hp ek en; intro T locs X eT N
  have hl0 : w.l = l := C.1
  subst hl0
  obtain ⟨v, vm₁, B, -, X', hQ, s'⟩ := X.specialBackNest C.ex hy1 C.ow ((Cond.methodLinkNest_wide C.hZ w1 :) : (Jvm.Cond.methodLinkNest own i y host).before w.args w.s = true) (mvT C.hZ w2) (mvT C.hZ w4) hy (backOf (W := (rest.map fun v => v.category).sum) (Q := fun v h L => Q' v h ∧ Fr n0 L) (K []) C.hZ w4 w3 (by rw [C.ro]; exact hf) (by rw [C.ro]; exact hl)) (g := mkF w.m pc Ls st) rfl (hz.trans C.ml.symm) (Steps.refl _) (a := a) (argsL := argsL) (rest := rest) (lenOf pd hlen) hst (by show 2 * 0 + _ ≤ _; omega) (C.dec hd) (fun _ _ => ⟨rfl, eT, by rw [C.ro]; exact hc, by rw [C.ro]; exact hn⟩)
  exact g_fin (T := T) (as := argsL.toArray) (A := (⟨T.setVm vm₁, locs, k, n⟩ : Pt)) C ⟨rfl, rfl, rfl⟩ X' hQ N g (fun t r => s'.trans r)
theorem g_newRE (C : Cx w l Z own bytes mx rt nm rm n0) {K ad : String} {i : Nat} {z : Int32} {cap : Nat} (hw : (Jvm.Cond.classLink own i K).before a0 Z = true) (w2 : (Jvm.Cond.arrayOver (.object K)).before a0 Z = true) (had : "[" ++ (FieldType.object K).toString = ad) (hd : decode bytes pc = .ok (.anewarray i, 3)) (hs : st = .int z :: rest) (hn : ¬ z < 0) (hcap : z.toNatClampNeg ≤ cap) (hb' : cap * 8 ≤ 536870912) (hc : k' ≤ rm.cells) (hl : n' ≤ rm.slots) (ek : k + 1 = k') (en : n + cap = n') (hp : pc + 3 = pc')
    (g : ∀ h' a kA, a = h.size → Ext h h' → Arv Z h' a kA (.object K) z [] .null → Exa Z h' a ad → Ovr Z kA K → G w Q h' k' n' pc' Ls (.ref a :: rest)) : G w Q h k n pc Ls st := by
  subst hp ek en; intro T locs X eT N
  obtain ⟨T', h', kA, X', e', E, A, B, O, s'⟩ := newRE X C.ex C.hZ C.ow hw w2 eT (g := mkF w.m pc Ls st) rfl (C.dec hd) hs hn hcap hb' (by rw [C.ro]; exact hc) (by rw [C.ro]; exact hl) had
  exact G.to X' e' N s' (g h' _ kA rfl E (Arv.new A hn) B O)
theorem ns_root {O K : String} {kk : Nat} (w0 : (Jvm.Cond.noSuperclass O).before a0 Z = true) (wk : (Jvm.Cond.instantiable K kk).before a0 Z = true) (hn : O ≠ K) : NS Z O K := by
  obtain ⟨c, k, h1, h2, h3, -, -⟩ := Cond.noSuperclass_spec w0
  obtain ⟨t, k2, g1, -⟩ := Cond.instantiable_spec wk
  have ne := ids_ne h1 g1 hn
  refine ⟨c, t, h1, g1, fun fuel => ?_⟩
  cases fuel with
  | zero => rfl
  | succ f => simp [Vm.isSubclassAux, ne, h2, h3]
theorem ns_no {B S K : String} {kk : Nat} (w0 : (Jvm.Cond.superclass B S).before a0 Z = true) (wk : (Jvm.Cond.instantiable K kk).before a0 Z = true) (n : NS Z B K) (hn : B ≠ K) : ∃ c t, Z.vm.findClass B = some c ∧ Z.vm.findClass K = some t ∧ Z.vm.assignable c t = false := by
  obtain ⟨c, t, h0, g0, n3⟩ := n
  obtain ⟨p, k, kp, h1, h2, h3, h4, h5, -, h7⟩ := Cond.superclass_spec h0 w0
  obtain ⟨t2, k2, g1, g2, g3, g4, -⟩ := Cond.instantiable_spec wk
  cases g0.symm.trans g1
  have ne := ids_ne h0 g0 hn
  have g7 : k2.isInterface = false := (Bool.or_eq_false_iff.mp g4).1
  refine ⟨c, t, h0, g0, ?_⟩
  show Z.vm.assignableAux (255 + 1) c t = false
  simp [Vm.assignableAux, ne, h2, g2, h5, g3, g7, Vm.isSubclass, n3]
end Jdk
theorem own_fldRef {args : Array Value} {s : State} {t : Term} {a b : Addr} {C f d : String} (ev : t.eval args s none [] s = some (.ref a)) (h : (Term.field t C f d).eval args s none [] s = some (.ref b)) : Fld s s.heap a C f d (.ref b) := by
  rw [fld_at ev] at h
  exact Fld.start h
theorem own_emptyA {s : State} {args : Array Value} {t : Term} {a : Addr} {ty : FieldType} {dv : Value} (ev : t.eval args s none [] s = some (.ref a)) (ha : (Jvm.Cond.arrayOf t ty).value args s none s [] = some true) (hl : (Jvm.Cond.eq (.length t) (.int (0 : Int32))).value args s none s [] = some true) : ∃ kE, Arv s s.heap a kE ty (0 : Int32) [] dv := by
  obtain ⟨c, A⟩ := Arr.start ev ha
  have hc := A.fin (Vm.Alike.refl _)
  have e := own_staInt hl
  have hi : (Jvm.Cond.isInt (.length t)).before args s = true := Cond.before_iff.mpr (by simp [Jvm.Cond.value, e])
  have sm := Cond.small_of_lengthOf ev hc hi
  obtain ⟨x, c', e1, e2, e3⟩ := Term.length_spec e
  cases ev.symm.trans e1
  cases hc.symm.trans e2
  have q : c.slots.size.toInt32 = 0 := by injection e3 with e4; exact e4.symm
  have z : c.slots.size = 0 := by
    have r := len_toInt sm
    rw [q] at r
    have e0 : (0 : Int32).toInt = 0 := by decide
    omega
  exact ⟨c.cls, c, A, rfl, by rw [z]; rfl, by decide, fun k hk => absurd hk (by omega), fun i hi => absurd hi (by omega)⟩

def En (Z : State) (s_I32 : Addr) (s_DEF : Addr) (s_EL : Addr) (s_EA : Addr) (mr : Addr) : Prop := (Sta Z Z.heap "com/example/strictwire/strictwire/WireType" "I32" "Lcom/example/strictwire/strictwire/WireType;" (.ref s_I32)) ∧ (Exa Z Z.heap s_I32 "com/example/strictwire/strictwire/WireType") ∧ (Sta Z Z.heap "java/util/ArrayList" "DEFAULTCAPACITY_EMPTY_ELEMENTDATA" "[Ljava/lang/Object;" (.ref s_DEF)) ∧ (Exa Z Z.heap s_DEF "[Ljava/lang/Object;") ∧ (∃ kE, Arv Z Z.heap s_DEF kE (.object "java/lang/Object") (0 : Int32) [] .null) ∧ (Sta Z Z.heap "java/util/ImmutableCollections" "EMPTY_LIST" "Ljava/util/ImmutableCollections$ListN;" (.ref s_EL)) ∧ (Exa Z Z.heap s_EL "java/util/ImmutableCollections$ListN") ∧ (Fld Z Z.heap s_EL "java/util/ImmutableCollections$ListN" "elements" "[Ljava/lang/Object;" (.ref s_EA)) ∧ (∃ kE, Arv Z Z.heap s_EA kE (.object "java/lang/Object") (0 : Int32) [] .null) ∧ (Mir Z "[Ljava/lang/Object;" mr)
def AL0 (Z : State) (n0 : Nat) (h : Heap) (a ed : Addr) (mc : Int32) : Prop := n0 ≤ a ∧ Exa Z h a "java/util/ArrayList" ∧ Fld Z h a "java/util/AbstractList" "modCount" "I" (.int mc) ∧ Fld Z h a "java/util/ArrayList" "elementData" "[Ljava/lang/Object;" (.ref ed) ∧ Fld Z h a "java/util/ArrayList" "size" "I" (.int (0 : Int32))
def AL1 (Z : State) (n0 : Nat) (h : Heap) (a ed : Addr) (kE : ClassId) (mc s : Int32) (vs : List Value) : Prop := n0 ≤ a ∧ n0 ≤ ed ∧ a ≠ ed ∧ Ovr Z kE "java/lang/Object" ∧ Exa Z h a "java/util/ArrayList" ∧ Exa Z h ed "[Ljava/lang/Object;" ∧ Fld Z h a "java/util/AbstractList" "modCount" "I" (.int mc) ∧ Fld Z h a "java/util/ArrayList" "elementData" "[Ljava/lang/Object;" (.ref ed) ∧ Fld Z h a "java/util/ArrayList" "size" "I" (.int s) ∧ Arv Z h ed kE (.object "java/lang/Object") (10 : Int32) vs .null
theorem own_AL0_keep {Z : State} {n0 : Nat} {h h' : Heap} {ws : List Addr} {a ed : Addr} {mc : Int32} (P : AL0 Z n0 h a ed mc) (K : Keep h h' ws) (q : a ∉ ws) : AL0 Z n0 h' a ed mc := by
  obtain ⟨g, E, F1, F2, F3⟩ := P; exact ⟨g, E.keep K, F1.keep K q, F2.keep K q, F3.keep K q⟩
theorem own_AL0_ext {Z : State} {n0 : Nat} {h h' : Heap} {a ed : Addr} {mc : Int32} (P : AL0 Z n0 h a ed mc) (K : Ext h h') : AL0 Z n0 h' a ed mc := by
  obtain ⟨g, E, F1, F2, F3⟩ := P; exact ⟨g, E.ext K, F1.ext K, F2.ext K, F3.ext K⟩
theorem own_AL1_keep {Z : State} {n0 : Nat} {h h' : Heap} {ws : List Addr} {a ed : Addr} {kE : ClassId} {mc s : Int32} {vs : List Value} (P : AL1 Z n0 h a ed kE mc s vs) (K : Keep h h' ws) (q : a ∉ ws) (r : ed ∉ ws) : AL1 Z n0 h' a ed kE mc s vs := by
  obtain ⟨g, g2, n, O, E, E2, F1, F2, F3, A⟩ := P; exact ⟨g, g2, n, O, E.keep K, E2.keep K, F1.keep K q, F2.keep K q, F3.keep K q, A.keep K r⟩
theorem own_AL1_ext {Z : State} {n0 : Nat} {h h' : Heap} {a ed : Addr} {kE : ClassId} {mc s : Int32} {vs : List Value} (P : AL1 Z n0 h a ed kE mc s vs) (K : Ext h h') : AL1 Z n0 h' a ed kE mc s vs := by
  obtain ⟨g, g2, n, O, E, E2, F1, F2, F3, A⟩ := P; exact ⟨g, g2, n, O, E.ext K, E2.ext K, F1.ext K, F2.ext K, F3.ext K, A.ext K⟩
/-! the wide frame: a body that may intern a String constant. Behind such a step the walk goes on over the start with the tables at hand (w.at vm) -/
def HW (w : Wk) : Prop := ∀ o t L, ReturnedEndW w.s o t L w.R.cells w.R.slots → w.fin o t L
abbrev Wk.at (w : Wk) (vm : Vm) : Wk := (w.p, w.l, w.e, w.R, w.s.setVm vm, w.m, w.args, w.below, w.meth, w.c, w.n0, fun o t L => ReturnedEndW (w.s.setVm vm) o t L w.R.cells w.R.slots)
def ConW (l : Launch) (Z : State) (y : MethodName) (bytes : ByteArray) (mx : Nat) (rt : Option FieldType) (rm : Room) (as : Array Value) (h : Heap) (n0 : Nat) (Q : Option Value → Heap → Prop) : Prop :=
  ∀ ws, MetFree l y (head1 (Jvm.Cond.code y bytes mx rt :: ws) rm) (fun a U => a = as ∧ Z.Warmed39 U.vm ∧ U.heap = h) (fun _ _ _ _ _ => True) (fun _ U o U' => ∃ v L, o = .returned v ∧ (Q v U'.heap ∧ Fr n0 L) ∧ ReturnedEndW U o U' L rm.cells rm.slots)
theorem endW {s t : State} {vm : Vm} {kk : Nat} {o : Outcome} {L : List Loc} {k n : Nat} (hS : s.Since vm kk) (hk : kk ≤ t.heap.size) (q : ReturnedEndW (s.setVm vm) o t L k n) : ReturnedEndW s o t L k n := by
  obtain ⟨q1, q2, q3, q4⟩ := q
  have r := hS.trans (vm₂ := t.vm) (n₂ := t.heap.size) ⟨q2, q3⟩ hk
  exact ⟨q1, r.1, r.2, q4.setVm s.vm⟩
section Wide
variable {w : Wk} {l : Launch} {Z : State} {own : String} {bytes : ByteArray} {mx : Nat} {rt : Option FieldType} {nm : String} {rm : Room} {n0 : Nat} {Q : Option Value → Heap → Prop} {h : Heap} {k n pc pc' : Nat} {Ls Ls' : Array Slot} {st rest : List Value} {a0 : Array Value} {t : FieldType} {k' n' : Nat}
theorem ConW.mk {y : MethodName} {as : Array Value} (hp : plainFor y = true) (hef : ∀ m, entryFrame m as mx = mkF m 0 Ls []) (body : ∀ w : Wk, Cx w l Z y.cls bytes mx rt y.name rm n0 → HW w → G w Q h 0 0 0 Ls []) : ConW l Z y bytes mx rt rm as h n0 Q := by
  intro ws
  refine MetFree.of_bodySF hp hisR ?_
  intro p e s m args below meth c s₁ Bd hml0 hP hK
  obtain ⟨rfl, hZ, hh⟩ := hP
  have X0 : Stand p l e rm s m args below meth c s₁ [] 0 0 := Stand.of_body Bd
  have e0 : s₁.heap = h := by rw [← hh, Bd.state]; rfl
  obtain ⟨s₂, o, h1, h2, h3, h4⟩ := body (p, l, e, rm, s, m, args, below, meth, c, n0, fun o t L => ReturnedEndW s o t L rm.cells rm.slots) ⟨rfl, Bd.exec, hZ, Bd.bytes, hml0, findClass_of_methodNamed Bd.named, Bd.returns, Bd.notSynchronized, (name_of_methodNamed Bd.named Bd.method).1, rfl, rfl, fun _ _ _ q => ReturnedEndW.of_narrow q.1 q.2.1 q.2.2⟩ (fun _ _ _ q => q) s₁ [] X0 e0 (Fr.nil n0)
  exact ⟨s₂, o, castTop (hef m) h1, h2, h3, h4⟩
theorem Cx.at {vm : Vm} {kk : Nat} (C : Cx w l Z own bytes mx rt nm rm n0) (hS : w.s.Since vm kk) : Cx (w.at vm) l Z own bytes mx rt nm rm n0 :=
  ⟨C.1, C.ex, State.Warmed39.trans C.hZ hS.1, C.2.2.2.1, C.ml, (hS.1.alike.findClass _ _).trans C.ow, C.ret, C.lk, C.mn, C.ro, C.nn, fun _ _ _ q => ReturnedEndW.of_narrow q.1 q.2.1 q.2.2⟩
theorem HW.at {vm : Vm} : HW (w.at vm) := fun _ _ _ q => q
theorem Ends.reb {vm : Vm} {kk : Nat} {A : State} (W : HW w) (hS : w.s.Since vm kk) (E : Ends (w.at vm) (fun v h' => Q v h' ∧ kk ≤ h'.size) A) : Ends w Q A := by
  obtain ⟨s₂, o, h1, h2, h3, v, L, e, ⟨⟨hq, hk⟩, hL⟩, hF⟩ := E
  exact ⟨s₂, o, h1, h2, h3, v, L, e, ⟨hq, hL⟩, W _ _ _ (endW hS hk hF)⟩
theorem g_ldcStr (C : Cx w l Z own bytes mx rt nm rm n0) (W : HW w) {i nn : Nat} {text : String} (hw : (Jvm.Cond.stringLink own i text).before a0 Z = true) (wS : ∀ a ∈ Bundle.stringAtoms, a.before a0 Z = true) (hd : decode bytes pc = .ok (.ldc i, 2)) (hn : 4 * text.toList.length ≤ nn) (hbig : nn ≤ 536870912) (hc : k' ≤ rm.cells) (hl : n' ≤ rm.slots) (ek : k + 2 = k') (en : n + (nn + 4) = n') (hp : pc + 2 = pc')
    (g : ∀ (w' : Wk) (h' : Heap) (a : Addr), Cx w' l Z own bytes mx rt nm rm n0 → HW w' → Ext h h' → G w' (fun v h'' => Q v h'' ∧ h'.size ≤ h''.size) h' k' n' pc' Ls (.ref a :: st)) : G w Q h k n pc Ls st := by
  subst hp ek en; intro T locs X eT N
  have wl : (Jvm.Cond.stringLink own i text).before w.args w.s = true := by
    have q := Cond.stringLink_warmed39 C.hZ hw
    simp only [Cond.before, Cond.holds, Cond.value] at q ⊢
    exact q
  obtain ⟨a, T', X', hS', -, hb, -, s'⟩ := X.ldcStringCold C.ex C.ow wl (fun d hd => by
    have q := wS d hd
    simp only [Bundle.stringAtoms, List.mem_cons, List.not_mem_nil, or_false] at hd
    rcases hd with rfl | rfl | rfl | rfl | rfl | rfl | rfl
    · exact mv C.hZ q
    · exact mv C.hZ q
    · exact mvA C.hZ q
    · exact mv C.hZ q
    · exact mv C.hZ q
    · exact mv C.hZ q
    · exact mv C.hZ q) (g := mkF w.m pc Ls st) rfl (C.dec hd) hn hbig (by rw [C.ro]; exact hc) (by rw [C.ro]; exact hl)
  subst eT
  have E := ext_of hb
  exact Ends.reb W hS' (G.to (w := w.at T'.vm) X' rfl N s' (g (w.at T'.vm) _ a (C.at hS') HW.at E))
theorem g_specialW (C : Cx w l Z own bytes mx rt nm rm n0) (W : HW w) {y : MethodName} {i mL : Nat} {bs : ByteArray} {rm' : Room} {Q' : Option Value → Heap → Prop} {a : Addr} {argsL : List Value} {ps : List FieldType} {r : Option FieldType}
    (w1 : (Jvm.Cond.methodLink own i y).before a0 Z = true) (w2 : (Jvm.Cond.instanceMethod y).before a0 Z = true) (w3 : (Jvm.Cond.initialized y.cls).before a0 Z = true) (w4 : (Jvm.Cond.code y bs mL none).before a0 Z = true) (hy : y.cls ≠ "java/lang/invoke/MethodHandle" ∧ y.cls ≠ "java/lang/invoke/VarHandle") (hy1 : y.name = "<init>")
    (hd : decode bytes pc = .ok (.invokespecial i, 3)) (pd : parseMethodDescriptor y.desc = some ⟨ps, r⟩) (hlen : argsL.length = ps.length) (hst : st = argsL.reverse ++ .ref a :: rest) (hz : Ls.size = mx)
    (K : ConW l Z y bs mL none rm' (.ref a :: argsL).toArray h n0 Q') (hf : rm'.frames + 1 ≤ rm.frames) (hl : (rest.map fun v => v.category).sum + (mL + 11) + rm'.locals ≤ rm.locals) (hc : k' ≤ rm.cells) (hn : n' ≤ rm.slots) (ek : k + rm'.cells = k') (en : n + rm'.slots = n') (hp : pc + 3 = pc')
    (g : ∀ (w' : Wk) v (h' : Heap), Cx w' l Z own bytes mx rt nm rm n0 → HW w' → Q' v h' → G w' (fun v h'' => Q v h'' ∧ h'.size ≤ h''.size) h' k' n' pc' Ls (psh v rest)) : G w Q h k n pc Ls st := by
  subst hp ek en; intro T locs X eT N
  have hl0 : w.l = l := C.1
  subst hl0
  obtain ⟨v, vm₁, B, -, X', hS, hgr, hQ, s'⟩ := X.specialBackS C.ex hy1 C.ow (mvT C.hZ w1) (mvT C.hZ w2) (mvT C.hZ w4) hy (backOfS (W := (rest.map fun v => v.category).sum) (Q := fun v h L => Q' v h ∧ Fr n0 L) (K []) C.hZ w4 w3 (by rw [C.ro]; exact hf) (by rw [C.ro]; exact hl)) (g := mkF w.m pc Ls st) rfl (hz.trans C.ml.symm) (Steps.refl _) (a := a) (argsL := argsL) (rest := rest) (lenOf pd hlen) hst (by show 2 * 0 + _ ≤ _; omega) (C.dec hd) (fun _ _ => ⟨rfl, eT, by rw [C.ro]; exact hc, by rw [C.ro]; exact hn⟩)
  obtain ⟨T', L', k', n'⟩ := B
  obtain ⟨L, ⟨hq, hL⟩, e1, e2, e3⟩ := hQ
  dsimp only [Pt.U, Pt.locs, Pt.cells, Pt.slots] at X' hq e1 e2 e3 s' hS hgr
  subst e1 e2 e3
  rw [psh_eq] at s'
  exact Ends.reb W hS (G.to (w := w.at T'.vm) X' rfl (N.app (C.nn ▸ hL)) (fun t r => s'.trans r) (g (w.at T'.vm) v _ (C.at hS) HW.at hq))
end Wide

theorem own_sa {Z : State} {a0 : Array Value} (hw : ∀ d ∈ tables_1, d.before a0 Z = true) : ∀ a ∈ Bundle.stringAtoms, a.before a0 Z = true := by
  intro d hd
  simp only [Bundle.stringAtoms, List.mem_cons, List.not_mem_nil, or_false] at hd
  rcases hd with rfl | rfl | rfl | rfl | rfl | rfl | rfl
  · exact (wd hw 24 rfl)
  · exact (wd hw 25 rfl)
  · exact (wd hw 26 rfl)
  · exact (wd hw 27 rfl)
  · exact (wd hw 28 rfl)
  · exact (wd hw 29 rfl)
  · exact (wd hw 30 rfl)
theorem own_mod5 (x : Int32) : ((x &&& (2147483647 : Int32)) % (5 : Int32)) = (0 : Int32) ∨ ((x &&& (2147483647 : Int32)) % (5 : Int32)) = (1 : Int32) ∨ ((x &&& (2147483647 : Int32)) % (5 : Int32)) = (2 : Int32) ∨ ((x &&& (2147483647 : Int32)) % (5 : Int32)) = (3 : Int32) ∨ ((x &&& (2147483647 : Int32)) % (5 : Int32)) = (4 : Int32) := by
  have h1 := own_mask31 x
  have h2 : ((x &&& (2147483647 : Int32)) % (5 : Int32)).toInt = (x &&& 2147483647).toInt.tmod 5 := by rw [Int32.toInt_mod]; rfl
  rw [Int.tmod_eq_emod_of_nonneg h1.1] at h2
  simp only [← Int32.toInt_inj, h2]
  have h3 : (x &&& 2147483647).toInt % 5 = 0 ∨ (x &&& 2147483647).toInt % 5 = 1 ∨ (x &&& 2147483647).toInt % 5 = 2 ∨ (x &&& 2147483647).toInt % 5 = 3 ∨ (x &&& 2147483647).toInt % 5 = 4 := by omega
  rcases h3 with h | h | h | h | h <;> simp [h]
theorem own_and1 (x : Int32) : (x &&& (1 : Int32)) = (0 : Int32) ∨ (x &&& (1 : Int32)) = (1 : Int32) := by
  have h2 := c_mask x 1 1 (by decide) (by decide)
  simp only [← Int32.toInt_inj, h2]
  have h3 : x.toInt % 2 = 0 ∨ x.toInt % 2 = 1 := by omega
  rcases h3 with h | h <;> simp [h]
theorem d2_0 : decode jdk_30_method_1_code 0 = .ok (.aload_n 0, 1) := by decide +kernel
theorem d2_1 : decode jdk_30_method_1_code 1 = .ok (.invokespecial 1, 3) := by decide +kernel
theorem d2_4 : decode jdk_30_method_1_code 4 = .ok (.return_, 1) := by decide +kernel
theorem pn_6 : plainName "java/lang/Record" = true := by first | (simp [plainName, overriddenIn]; done) | decide +kernel
set_option maxRecDepth 65536 in
set_option maxHeartbeats 40000000 in
theorem recI_0 (l : Launch) (Z : State) (a0 : Array Value) (hw : ∀ d ∈ tables_1, d.before a0 Z = true) (n0 : Nat) (h : Heap) (O : Old Z n0 h) (s_I32 : Addr) (s_DEF : Addr) (s_EL : Addr) (s_EA : Addr) (mr : Addr) (H : En Z s_I32 s_DEF s_EL s_EA mr) (a : Addr) (E0 : Exa Z h a "com/example/strictwire/strictwire/I32Value") : Con l Z (⟨"java/lang/Record", "<init>", "()V"⟩ : MethodName) jdk_30_method_1_code 1 none ({ frames := 1, cells := 0, slots := 0, locals := 12 } : Room) #[(.ref a)] h n0 (fun v h' => v = none ∧ h' = h) := by
  refine Con.mk (Ls := #[.val (.ref a)]) (plainFor_of_name pn_6) (fun m => by first | (simp [entryFrame, mkF, argsToLocals, Value.category]; done) | rfl) (fun w C => ?_)
  replace C : Cx w l Z "java/lang/Record" jdk_30_method_1_code 1 none "<init>" ({ frames := 1, cells := 0, slots := 0, locals := 12 } : Room) n0 := C
  obtain ⟨S_I32, E_I32, S_DEF, E_DEF, V_DEF, S_EL, E_EL, F_EL, V_EA, MIR⟩ := id H
  obtain ⟨kD, V_DEF⟩ := V_DEF
  obtain ⟨kEA, V_EA⟩ := V_EA
  refine g_aloadN C (pc' := 1) d2_0 rfl rfl rfl ?_
  refine g_initO C (pc' := 4) (wd hw 11 rfl) (wd hw 12 rfl) (wd hw 13 rfl) d2_1 rfl rfl (Nat.le_of_ble_eq_true rfl) (Nat.le_of_ble_eq_true rfl) rfl ?_
  exact g_return C d2_4 rfl (Nat.le_of_ble_eq_true rfl) (Nat.le_of_ble_eq_true rfl) (⟨rfl, rfl⟩)
set_option maxRecDepth 65536 in
set_option maxHeartbeats 40000000 in
theorem recF_0 (l : Launch) (Z : State) (a0 : Array Value) (hw : ∀ d ∈ tables_1, d.before a0 Z = true) (n0 : Nat) (h : Heap) (O : Old Z n0 h) (s_I32 : Addr) (s_DEF : Addr) (s_EL : Addr) (s_EA : Addr) (mr : Addr) (H : En Z s_I32 s_DEF s_EL s_EA mr) (a : Addr) (E0 : Exa Z h a "com/example/strictwire/strictwire/Field") : Con l Z (⟨"java/lang/Record", "<init>", "()V"⟩ : MethodName) jdk_30_method_1_code 1 none ({ frames := 1, cells := 0, slots := 0, locals := 12 } : Room) #[(.ref a)] h n0 (fun v h' => v = none ∧ h' = h) := by
  refine Con.mk (Ls := #[.val (.ref a)]) (plainFor_of_name pn_6) (fun m => by first | (simp [entryFrame, mkF, argsToLocals, Value.category]; done) | rfl) (fun w C => ?_)
  replace C : Cx w l Z "java/lang/Record" jdk_30_method_1_code 1 none "<init>" ({ frames := 1, cells := 0, slots := 0, locals := 12 } : Room) n0 := C
  obtain ⟨S_I32, E_I32, S_DEF, E_DEF, V_DEF, S_EL, E_EL, F_EL, V_EA, MIR⟩ := id H
  obtain ⟨kD, V_DEF⟩ := V_DEF
  obtain ⟨kEA, V_EA⟩ := V_EA
  refine g_aloadN C (pc' := 1) d2_0 rfl rfl rfl ?_
  refine g_initO C (pc' := 4) (wd hw 11 rfl) (wd hw 12 rfl) (wd hw 13 rfl) d2_1 rfl rfl (Nat.le_of_ble_eq_true rfl) (Nat.le_of_ble_eq_true rfl) rfl ?_
  exact g_return C d2_4 rfl (Nat.le_of_ble_eq_true rfl) (Nat.le_of_ble_eq_true rfl) (⟨rfl, rfl⟩)
theorem d1_0 : decode prog_15_method_1_code 0 = .ok (.aload_n 0, 1) := by decide +kernel
theorem d1_1 : decode prog_15_method_1_code 1 = .ok (.invokespecial 1, 3) := by decide +kernel
theorem pd_1 : parseMethodDescriptor "()V" = some ⟨[], none⟩ := by decide +kernel
theorem d1_4 : decode prog_15_method_1_code 4 = .ok (.aload_n 0, 1) := by decide +kernel
theorem d1_5 : decode prog_15_method_1_code 5 = .ok (.iload_n 1, 1) := by decide +kernel
theorem d1_6 : decode prog_15_method_1_code 6 = .ok (.putfield 7, 3) := by decide +kernel
theorem d1_9 : decode prog_15_method_1_code 9 = .ok (.return_, 1) := by decide +kernel
theorem pn_1 : plainName "com/example/strictwire/strictwire/I32Value" = true := by first | (simp [plainName, overriddenIn]; done) | decide +kernel
set_option maxRecDepth 65536 in
set_option maxHeartbeats 40000000 in
theorem ivI (l : Launch) (Z : State) (a0 : Array Value) (hw : ∀ d ∈ tables_1, d.before a0 Z = true) (n0 : Nat) (h : Heap) (O : Old Z n0 h) (s_I32 : Addr) (s_DEF : Addr) (s_EL : Addr) (s_EA : Addr) (mr : Addr) (H : En Z s_I32 s_DEF s_EL s_EA mr) (a : Addr) (v : Int32) (ga : n0 ≤ a) (E0 : Exa Z h a "com/example/strictwire/strictwire/I32Value") (F0 : Fld Z h a "com/example/strictwire/strictwire/I32Value" "value" "I" (.int (0 : Int32))) : Con l Z (⟨"com/example/strictwire/strictwire/I32Value", "<init>", "(I)V"⟩ : MethodName) prog_15_method_1_code 2 none ({ frames := 2, cells := 0, slots := 0, locals := 24 } : Room) #[(.ref a), (.int v)] h n0 (fun r h' => r = none ∧ Keep h h' [a]) := by
  refine Con.mk (Ls := #[.val (.ref a), .val (.int v)]) (plainFor_of_name pn_1) (fun m => by first | (simp [entryFrame, mkF, argsToLocals, Value.category]; done) | rfl) (fun w C => ?_)
  replace C : Cx w l Z "com/example/strictwire/strictwire/I32Value" prog_15_method_1_code 2 none "<init>" ({ frames := 2, cells := 0, slots := 0, locals := 24 } : Room) n0 := C
  obtain ⟨S_I32, E_I32, S_DEF, E_DEF, V_DEF, S_EL, E_EL, F_EL, V_EA, MIR⟩ := id H
  obtain ⟨kD, V_DEF⟩ := V_DEF
  obtain ⟨kEA, V_EA⟩ := V_EA
  refine g_aloadN C (pc' := 1) d1_0 rfl rfl rfl ?_
  refine g_special C (pc' := 4) (k' := 0) (n' := 0) (argsL := []) (rest := []) (wd hw 6 rfl) (wd hw 7 rfl) (wd hw 9 rfl) (wd hw 10 rfl) (by decide) rfl d1_1 pd_1 rfl rfl rfl (recI_0 l Z a0 hw n0 h O s_I32 s_DEF s_EL s_EA mr H a E0) (Nat.le_of_ble_eq_true rfl) (Nat.le_of_ble_eq_true rfl) (Nat.le_of_ble_eq_true rfl) (Nat.le_of_ble_eq_true rfl) rfl rfl rfl (fun v2 h1 q3 => ?_)
  obtain ⟨rfl, eh1⟩ := q3
  subst h1
  show G w _ h 0 0 4 #[.val (.ref a), .val (.int v)] []
  refine g_aloadN C (pc' := 5) d1_4 rfl rfl rfl ?_
  refine g_iloadN C (pc' := 6) d1_5 rfl rfl ?_
  refine g_putF C (pc' := 9) (ty := .int) (wd hw 14 rfl) Via.refl d1_6 rfl F0 E0 (Or.inr ⟨(wd hw 15 rfl), rfl, rfl⟩) (wd hw 1 rfl) (by decide) rfl rfl ga rfl (fun h4 W5 => ?_)
  have f6 := O.wr W5 ga
  have f7 := (Keep.refl h [a]).wr W5 (Or.inl (List.mem_of_getElem? (i := 0) rfl))
  have f8 := E0.wr W5
  have f9 := F0.same W5
  exact g_return C d1_9 rfl (Nat.le_of_ble_eq_true rfl) (Nat.le_of_ble_eq_true rfl) (⟨rfl, f7⟩)
theorem d5_0 : decode jdk_31_method_11_code 0 = .ok (.aload_n 0, 1) := by decide +kernel
theorem d5_1 : decode jdk_31_method_11_code 1 = .ok (.ifnonnull 12, 3) := by decide +kernel
theorem d5_13 : decode jdk_31_method_11_code 13 = .ok (.aload_n 0, 1) := by decide +kernel
theorem d5_14 : decode jdk_31_method_11_code 14 = .ok (.areturn, 1) := by decide +kernel
theorem pn_16 : plainName "java/util/Objects" = true := by first | (simp [plainName, overriddenIn]; done) | decide +kernel
set_option maxRecDepth 65536 in
set_option maxHeartbeats 40000000 in
theorem rnn2 (l : Launch) (Z : State) (a0 : Array Value) (hw : ∀ d ∈ tables_1, d.before a0 Z = true) (n0 : Nat) (h : Heap) (O : Old Z n0 h) (s_I32 : Addr) (s_DEF : Addr) (s_EL : Addr) (s_EA : Addr) (mr : Addr) (H : En Z s_I32 s_DEF s_EL s_EA mr) (x y : Addr) : Con l Z (⟨"java/util/Objects", "requireNonNull", "(Ljava/lang/Object;Ljava/lang/String;)Ljava/lang/Object;"⟩ : MethodName) jdk_31_method_11_code 2 (some (.object "java/lang/Object")) ({ frames := 0, cells := 0, slots := 0, locals := 0 } : Room) #[(.ref x), (.ref y)] h n0 (fun v h' => v = some (.ref x) ∧ h' = h) := by
  refine Con.mk (Ls := #[.val (.ref x), .val (.ref y)]) (plainFor_of_name pn_16) (fun m => by first | (simp [entryFrame, mkF, argsToLocals, Value.category]; done) | rfl) (fun w C => ?_)
  replace C : Cx w l Z "java/util/Objects" jdk_31_method_11_code 2 (some (.object "java/lang/Object")) "requireNonNull" ({ frames := 0, cells := 0, slots := 0, locals := 0 } : Room) n0 := C
  obtain ⟨S_I32, E_I32, S_DEF, E_DEF, V_DEF, S_EL, E_EL, F_EL, V_EA, MIR⟩ := id H
  obtain ⟨kD, V_DEF⟩ := V_DEF
  obtain ⟨kEA, V_EA⟩ := V_EA
  refine g_aloadN C (pc' := 1) d5_0 rfl rfl rfl ?_
  refine g_ifnonnullY C (pc' := 13) d5_1 rfl (by decide) rfl ?_
  refine g_aloadN C (pc' := 14) d5_13 rfl rfl rfl ?_
  exact g_areturn C d5_14 rfl rfl rfl rfl (Nat.le_of_ble_eq_true rfl) (Nat.le_of_ble_eq_true rfl) (⟨rfl, rfl⟩)
theorem d4_0 : decode prog_11_method_1_code 0 = .ok (.aload_n 0, 1) := by decide +kernel
theorem d4_1 : decode prog_11_method_1_code 1 = .ok (.invokespecial 1, 3) := by decide +kernel
theorem d4_4 : decode prog_11_method_1_code 4 = .ok (.aload_n 2, 1) := by decide +kernel
theorem d4_5 : decode prog_11_method_1_code 5 = .ok (.ldc 7, 2) := by decide +kernel
theorem d4_7 : decode prog_11_method_1_code 7 = .ok (.invokestatic 9, 3) := by decide +kernel
theorem pd_3 : parseMethodDescriptor "(Ljava/lang/Object;Ljava/lang/String;)Ljava/lang/Object;" = some ⟨[(.object "java/lang/Object"), (.object "java/lang/String")], some (.object "java/lang/Object")⟩ := by decide +kernel
theorem d4_10 : decode prog_11_method_1_code 10 = .ok (.pop, 1) := by decide +kernel
theorem d4_11 : decode prog_11_method_1_code 11 = .ok (.aload_n 0, 1) := by decide +kernel
theorem d4_12 : decode prog_11_method_1_code 12 = .ok (.iload_n 1, 1) := by decide +kernel
theorem d4_13 : decode prog_11_method_1_code 13 = .ok (.putfield 15, 3) := by decide +kernel
theorem d4_16 : decode prog_11_method_1_code 16 = .ok (.aload_n 0, 1) := by decide +kernel
theorem d4_17 : decode prog_11_method_1_code 17 = .ok (.aload_n 2, 1) := by decide +kernel
theorem d4_18 : decode prog_11_method_1_code 18 = .ok (.putfield 21, 3) := by decide +kernel
theorem d4_21 : decode prog_11_method_1_code 21 = .ok (.return_, 1) := by decide +kernel
theorem pn_0 : plainName "com/example/strictwire/strictwire/Field" = true := by first | (simp [plainName, overriddenIn]; done) | decide +kernel
set_option maxRecDepth 65536 in
set_option maxHeartbeats 40000000 in
theorem fiI (l : Launch) (Z : State) (a0 : Array Value) (hw : ∀ d ∈ tables_1, d.before a0 Z = true) (n0 : Nat) (h : Heap) (O : Old Z n0 h) (s_I32 : Addr) (s_DEF : Addr) (s_EL : Addr) (s_EA : Addr) (mr : Addr) (H : En Z s_I32 s_DEF s_EL s_EA mr) (a v : Addr) (i : Int32) (ga : n0 ≤ a) (E0 : Exa Z h a "com/example/strictwire/strictwire/Field") (F0 : Fld Z h a "com/example/strictwire/strictwire/Field" "id" "S" (.int (0 : Int32))) (F1 : Fld Z h a "com/example/strictwire/strictwire/Field" "value" "Lcom/example/strictwire/strictwire/Value;" .null) : ConW l Z (⟨"com/example/strictwire/strictwire/Field", "<init>", "(SLcom/example/strictwire/strictwire/Value;)V"⟩ : MethodName) prog_11_method_1_code 3 none ({ frames := 2, cells := 2, slots := 24, locals := 24 } : Room) #[(.ref a), (.int i), (.ref v)] h n0 (fun r h' => r = none ∧ Keep h h' [a]) := by
  refine ConW.mk (Ls := #[.val (.ref a), .val (.int i), .val (.ref v)]) (plainFor_of_name pn_0) (fun m => by first | (simp [entryFrame, mkF, argsToLocals, Value.category]; done) | rfl) (fun w C WD => ?_)
  replace C : Cx w l Z "com/example/strictwire/strictwire/Field" prog_11_method_1_code 3 none "<init>" ({ frames := 2, cells := 2, slots := 24, locals := 24 } : Room) n0 := C
  obtain ⟨S_I32, E_I32, S_DEF, E_DEF, V_DEF, S_EL, E_EL, F_EL, V_EA, MIR⟩ := id H
  obtain ⟨kD, V_DEF⟩ := V_DEF
  obtain ⟨kEA, V_EA⟩ := V_EA
  refine g_aloadN C (pc' := 1) d4_0 rfl rfl rfl ?_
  refine g_special C (pc' := 4) (k' := 0) (n' := 0) (argsL := []) (rest := []) (wd hw 22 rfl) (wd hw 7 rfl) (wd hw 9 rfl) (wd hw 10 rfl) (by decide) rfl d4_1 pd_1 rfl rfl rfl (recF_0 l Z a0 hw n0 h O s_I32 s_DEF s_EL s_EA mr H a E0) (Nat.le_of_ble_eq_true rfl) (Nat.le_of_ble_eq_true rfl) (Nat.le_of_ble_eq_true rfl) (Nat.le_of_ble_eq_true rfl) rfl rfl rfl (fun v11 h10 q12 => ?_)
  obtain ⟨rfl, eh10⟩ := q12
  subst h10
  show G w _ h 0 0 4 #[.val (.ref a), .val (.int i), .val (.ref v)] []
  refine g_aloadN C (pc' := 5) d4_4 rfl rfl rfl ?_
  refine g_ldcStr C WD (pc' := 7) (k' := 2) (n' := 24) (nn := 20) (wd hw 23 rfl) (own_sa hw) d4_5 (by decide) (by decide) (Nat.le_of_ble_eq_true rfl) (Nat.le_of_ble_eq_true rfl) rfl rfl rfl (fun w h13 sa14 C WD E15 => ?_)
  have f16 := O.ext E15
  have f17 := (Keep.refl h [a]).ext E15
  have f18 := E0.ext E15
  have f19 := F0.ext E15
  have f20 := F1.ext E15
  have sz21 : h13.size ≤ h13.size := Nat.le_refl _
  show G w _ h13 2 24 7 #[.val (.ref a), .val (.int i), .val (.ref v)] [(.ref sa14), (.ref v)]
  refine g_callS C (pc' := 10) (k' := 2) (n' := 24) (argsL := [(.ref v), (.ref sa14)]) (rest := []) (wd hw 31 rfl) (wd hw 32 rfl) (wd hw 33 rfl) (wd hw 34 rfl) (by decide) d4_7 pd_3 rfl rfl rfl (rnn2 l Z a0 hw n0 h13 f16 s_I32 s_DEF s_EL s_EA mr H v sa14) (Nat.le_of_ble_eq_true rfl) (Nat.le_of_ble_eq_true rfl) (Nat.le_of_ble_eq_true rfl) (Nat.le_of_ble_eq_true rfl) rfl rfl rfl (fun v23 h22 q24 => ?_)
  obtain ⟨rfl, eh22⟩ := q24
  subst h22
  show G w _ h13 2 24 10 #[.val (.ref a), .val (.int i), .val (.ref v)] [(.ref v)]
  refine g_pop C (pc' := 11) d4_10 rfl rfl rfl ?_
  refine g_aloadN C (pc' := 12) d4_11 rfl rfl rfl ?_
  refine g_iloadN C (pc' := 13) d4_12 rfl rfl ?_
  refine g_putFN C (pc' := 16) (v' := (.int (nar .short i))) (ty := .short) (wd hw 35 rfl) Via.refl d4_13 rfl f19 f18 (Or.inr ⟨(wd hw 36 rfl), rfl, rfl⟩) (wd hw 17 rfl) (by decide) rfl (fits_nar_short _) ga rfl (fun h25 W26 => ?_)
  have f27 := f16.wr W26 ga
  have f28 := f17.wr W26 (Or.inl (List.mem_of_getElem? (i := 0) rfl))
  have f29 := f18.wr W26
  have f30 := f19.same W26
  have f31 := f20.other W26 (Or.inr (slot_ne (Or.inr (wd hw 38 rfl)) (Or.inr (wd hw 36 rfl)) (by decide) (t := (.object "com/example/strictwire/strictwire/Value")) (t' := .short) (by decide) (by decide)))
  have f32 := Nat.le_trans sz21 (Keep.of_wr W26).1
  refine g_aloadN C (pc' := 17) d4_16 rfl rfl rfl ?_
  refine g_aloadN C (pc' := 18) d4_17 rfl rfl rfl ?_
  refine g_putF C (pc' := 21) (ty := (.object "com/example/strictwire/strictwire/Value")) (wd hw 37 rfl) Via.refl d4_18 rfl f31 f29 (Or.inr ⟨(wd hw 38 rfl), rfl, rfl⟩) (wd hw 17 rfl) (by decide) rfl rfl ga rfl (fun h33 W34 => ?_)
  have f35 := f27.wr W34 ga
  have f36 := f28.wr W34 (Or.inl (List.mem_of_getElem? (i := 0) rfl))
  have f37 := f29.wr W34
  have f38 := f30.other W34 (Or.inr (slot_ne (Or.inr (wd hw 36 rfl)) (Or.inr (wd hw 38 rfl)) (by decide) (t := .short) (t' := (.object "com/example/strictwire/strictwire/Value")) (by decide) (by decide)))
  have f39 := f31.same W34
  have f40 := Nat.le_trans f32 (Keep.of_wr W34).1
  exact g_return C d4_21 rfl (Nat.le_of_ble_eq_true rfl) (Nat.le_of_ble_eq_true rfl) (⟨⟨rfl, f36⟩, f40⟩)
theorem d8_0 : decode jdk_22_method_1_code 0 = .ok (.aload_n 0, 1) := by decide +kernel
theorem d8_1 : decode jdk_22_method_1_code 1 = .ok (.invokespecial 1, 3) := by decide +kernel
theorem d8_4 : decode jdk_22_method_1_code 4 = .ok (.return_, 1) := by decide +kernel
theorem pn_7 : plainName "java/util/AbstractCollection" = true := by first | (simp [plainName, overriddenIn]; done) | decide +kernel
set_option maxRecDepth 65536 in
set_option maxHeartbeats 40000000 in
theorem acol_0 (l : Launch) (Z : State) (a0 : Array Value) (hw : ∀ d ∈ tables_1, d.before a0 Z = true) (n0 : Nat) (h : Heap) (O : Old Z n0 h) (s_I32 : Addr) (s_DEF : Addr) (s_EL : Addr) (s_EA : Addr) (mr : Addr) (H : En Z s_I32 s_DEF s_EL s_EA mr) (a : Addr) (E0 : Exa Z h a "java/util/ArrayList") : Con l Z (⟨"java/util/AbstractCollection", "<init>", "()V"⟩ : MethodName) jdk_22_method_1_code 1 none ({ frames := 1, cells := 0, slots := 0, locals := 12 } : Room) #[(.ref a)] h n0 (fun v h' => v = none ∧ h' = h) := by
  refine Con.mk (Ls := #[.val (.ref a)]) (plainFor_of_name pn_7) (fun m => by first | (simp [entryFrame, mkF, argsToLocals, Value.category]; done) | rfl) (fun w C => ?_)
  replace C : Cx w l Z "java/util/AbstractCollection" jdk_22_method_1_code 1 none "<init>" ({ frames := 1, cells := 0, slots := 0, locals := 12 } : Room) n0 := C
  obtain ⟨S_I32, E_I32, S_DEF, E_DEF, V_DEF, S_EL, E_EL, F_EL, V_EA, MIR⟩ := id H
  obtain ⟨kD, V_DEF⟩ := V_DEF
  obtain ⟨kEA, V_EA⟩ := V_EA
  refine g_aloadN C (pc' := 1) d8_0 rfl rfl rfl ?_
  refine g_initO C (pc' := 4) (wd hw 58 rfl) (wd hw 12 rfl) (wd hw 13 rfl) d8_1 rfl rfl (Nat.le_of_ble_eq_true rfl) (Nat.le_of_ble_eq_true rfl) rfl ?_
  exact g_return C d8_4 rfl (Nat.le_of_ble_eq_true rfl) (Nat.le_of_ble_eq_true rfl) (⟨rfl, rfl⟩)
theorem d7_0 : decode jdk_39_method_1_code 0 = .ok (.aload_n 0, 1) := by decide +kernel
theorem d7_1 : decode jdk_39_method_1_code 1 = .ok (.invokespecial 1, 3) := by decide +kernel
theorem d7_4 : decode jdk_39_method_1_code 4 = .ok (.aload_n 0, 1) := by decide +kernel
theorem d7_5 : decode jdk_39_method_1_code 5 = .ok (.iconst 0, 1) := by decide +kernel
theorem d7_6 : decode jdk_39_method_1_code 6 = .ok (.putfield 7, 3) := by decide +kernel
theorem d7_9 : decode jdk_39_method_1_code 9 = .ok (.return_, 1) := by decide +kernel
theorem pn_8 : plainName "java/util/AbstractList" = true := by first | (simp [plainName, overriddenIn]; done) | decide +kernel
set_option maxRecDepth 65536 in
set_option maxHeartbeats 40000000 in
theorem abl (l : Launch) (Z : State) (a0 : Array Value) (hw : ∀ d ∈ tables_1, d.before a0 Z = true) (n0 : Nat) (h : Heap) (O : Old Z n0 h) (s_I32 : Addr) (s_DEF : Addr) (s_EL : Addr) (s_EA : Addr) (mr : Addr) (H : En Z s_I32 s_DEF s_EL s_EA mr) (a : Addr) (ga : n0 ≤ a) (E0 : Exa Z h a "java/util/ArrayList") (F1 : Fld Z h a "java/util/AbstractList" "modCount" "I" (.int (0 : Int32))) : Con l Z (⟨"java/util/AbstractList", "<init>", "()V"⟩ : MethodName) jdk_39_method_1_code 1 none ({ frames := 2, cells := 0, slots := 0, locals := 24 } : Room) #[(.ref a)] h n0 (fun v h' => v = none ∧ Keep h h' [a] ∧ Exa Z h' a "java/util/ArrayList" ∧ Fld Z h' a "java/util/AbstractList" "modCount" "I" (.int (0 : Int32)) ∧ (∀ {C f d : String} {v : Value}, Laid Z a0 "java/util/ArrayList" C f d → (f ≠ "modCount") → (∃ t, parseFieldDescriptor d = some t) → Fld Z h a C f d v → Fld Z h' a C f d v)) := by
  refine Con.mk (Ls := #[.val (.ref a)]) (plainFor_of_name pn_8) (fun m => by first | (simp [entryFrame, mkF, argsToLocals, Value.category]; done) | rfl) (fun w C => ?_)
  replace C : Cx w l Z "java/util/AbstractList" jdk_39_method_1_code 1 none "<init>" ({ frames := 2, cells := 0, slots := 0, locals := 24 } : Room) n0 := C
  obtain ⟨S_I32, E_I32, S_DEF, E_DEF, V_DEF, S_EL, E_EL, F_EL, V_EA, MIR⟩ := id H
  obtain ⟨kD, V_DEF⟩ := V_DEF
  obtain ⟨kEA, V_EA⟩ := V_EA
  refine g_aloadN C (pc' := 1) d7_0 rfl rfl rfl ?_
  refine g_special C (pc' := 4) (k' := 0) (n' := 0) (argsL := []) (rest := []) (wd hw 52 rfl) (wd hw 53 rfl) (wd hw 56 rfl) (wd hw 57 rfl) (by decide) rfl d7_1 pd_1 rfl rfl rfl (acol_0 l Z a0 hw n0 h O s_I32 s_DEF s_EL s_EA mr H a E0) (Nat.le_of_ble_eq_true rfl) (Nat.le_of_ble_eq_true rfl) (Nat.le_of_ble_eq_true rfl) (Nat.le_of_ble_eq_true rfl) rfl rfl rfl (fun v42 h41 q43 => ?_)
  obtain ⟨rfl, eh41⟩ := q43
  subst h41
  show G w _ h 0 0 4 #[.val (.ref a)] []
  refine g_aloadN C (pc' := 5) d7_4 rfl rfl rfl ?_
  refine g_iconst C (pc' := 6) (v := (0 : Int32)) d7_5 (by decide) rfl ?_
  refine g_putF C (pc' := 9) (ty := .int) (wd hw 59 rfl) Via.refl d7_6 rfl F1 E0 (Or.inl (wd hw 60 rfl)) (wd hw 41 rfl) (by decide) rfl rfl ga rfl (fun h44 W45 => ?_)
  have f46 := O.wr W45 ga
  have f47 := (Keep.refl h [a]).wr W45 (Or.inl (List.mem_of_getElem? (i := 0) rfl))
  have f48 := E0.wr W45
  have f49 := F1.same W45
  exact g_return C d7_9 rfl (Nat.le_of_ble_eq_true rfl) (Nat.le_of_ble_eq_true rfl) (⟨rfl, f47, f48, f49, fun L q ⟨t, ht⟩ F => F.other W45 (Or.inr (slot_ne L (Or.inl (wd hw 60 rfl)) q ht (t' := .int) (by decide)))⟩)
theorem d6_0 : decode jdk_38_method_2_code 0 = .ok (.aload_n 0, 1) := by decide +kernel
theorem d6_1 : decode jdk_38_method_2_code 1 = .ok (.invokespecial 1, 3) := by decide +kernel
theorem d6_4 : decode jdk_38_method_2_code 4 = .ok (.aload_n 0, 1) := by decide +kernel
theorem d6_5 : decode jdk_38_method_2_code 5 = .ok (.getstatic 39, 3) := by decide +kernel
theorem d6_8 : decode jdk_38_method_2_code 8 = .ok (.putfield 9, 3) := by decide +kernel
theorem d6_11 : decode jdk_38_method_2_code 11 = .ok (.return_, 1) := by decide +kernel
theorem pn_9 : plainName "java/util/ArrayList" = true := by first | (simp [plainName, overriddenIn]; done) | decide +kernel
set_option maxRecDepth 65536 in
set_option maxHeartbeats 40000000 in
theorem al_init (l : Launch) (Z : State) (a0 : Array Value) (hw : ∀ d ∈ tables_1, d.before a0 Z = true) (n0 : Nat) (h : Heap) (O : Old Z n0 h) (s_I32 : Addr) (s_DEF : Addr) (s_EL : Addr) (s_EA : Addr) (mr : Addr) (H : En Z s_I32 s_DEF s_EL s_EA mr) (a : Addr) (ga : n0 ≤ a) (E0 : Exa Z h a "java/util/ArrayList") (F1 : Fld Z h a "java/util/AbstractList" "modCount" "I" (.int (0 : Int32))) (F2 : Fld Z h a "java/util/ArrayList" "elementData" "[Ljava/lang/Object;" .null) (F3 : Fld Z h a "java/util/ArrayList" "size" "I" (.int (0 : Int32))) : Con l Z (⟨"java/util/ArrayList", "<init>", "()V"⟩ : MethodName) jdk_38_method_2_code 1 none ({ frames := 3, cells := 0, slots := 0, locals := 36 } : Room) #[(.ref a)] h n0 (fun v h' => v = none ∧ Keep h h' [a] ∧ AL0 Z n0 h' a s_DEF (0 : Int32)) := by
  refine Con.mk (Ls := #[.val (.ref a)]) (plainFor_of_name pn_9) (fun m => by first | (simp [entryFrame, mkF, argsToLocals, Value.category]; done) | rfl) (fun w C => ?_)
  replace C : Cx w l Z "java/util/ArrayList" jdk_38_method_2_code 1 none "<init>" ({ frames := 3, cells := 0, slots := 0, locals := 36 } : Room) n0 := C
  obtain ⟨S_I32, E_I32, S_DEF, E_DEF, V_DEF, S_EL, E_EL, F_EL, V_EA, MIR⟩ := id H
  obtain ⟨kD, V_DEF⟩ := V_DEF
  obtain ⟨kEA, V_EA⟩ := V_EA
  refine g_aloadN C (pc' := 1) d6_0 rfl rfl rfl ?_
  refine g_special C (pc' := 4) (k' := 0) (n' := 0) (argsL := []) (rest := []) (wd hw 46 rfl) (wd hw 47 rfl) (wd hw 50 rfl) (wd hw 51 rfl) (by decide) rfl d6_1 pd_1 rfl rfl rfl (abl l Z a0 hw n0 h O s_I32 s_DEF s_EL s_EA mr H a ga E0 F1) (Nat.le_of_ble_eq_true rfl) (Nat.le_of_ble_eq_true rfl) (Nat.le_of_ble_eq_true rfl) (Nat.le_of_ble_eq_true rfl) rfl rfl rfl (fun v55 h54 q56 => ?_)
  obtain ⟨rfl, K50, E51, F52, T53⟩ := q56
  have f57 := O.keep K50 (allS ga all0)
  have f58 := (Keep.refl h [a]).trans K50 (allS (Or.inl (List.mem_of_getElem? (i := 0) rfl)) all0)
  have f59 := E0.keep K50
  have f60 := T53 (Or.inl (wd hw 63 rfl)) (by decide) ⟨_, (by decide : parseFieldDescriptor "[Ljava/lang/Object;" = some (.array (.object "java/lang/Object")))⟩ F2
  have f61 := T53 (Or.inl (wd hw 101 rfl)) (by decide) ⟨_, (by decide : parseFieldDescriptor "I" = some .int)⟩ F3
  show G w _ h54 0 0 4 #[.val (.ref a)] []
  refine g_aloadN C (pc' := 5) d6_4 rfl rfl rfl ?_
  refine g_getS C (pc' := 8) (wd hw 61 rfl) Via.refl d6_5 (S_DEF.ext f57.2) rfl ?_
  refine g_putF C (pc' := 11) (ty := (.array (.object "java/lang/Object"))) (wd hw 62 rfl) Via.refl d6_8 rfl f60 f59 (Or.inl (wd hw 63 rfl)) (wd hw 41 rfl) (by decide) rfl rfl ga rfl (fun h62 W63 => ?_)
  have f64 := f57.wr W63 ga
  have f65 := f58.wr W63 (Or.inl (List.mem_of_getElem? (i := 0) rfl))
  have f66 := f59.wr W63
  have f67 := F52.other W63 (Or.inr (slot_ne (Or.inl (wd hw 60 rfl)) (Or.inl (wd hw 63 rfl)) (by decide) (t := .int) (t' := (.array (.object "java/lang/Object"))) (by decide) (by decide)))
  have f68 := f60.same W63
  have f69 := f61.other W63 (Or.inr (slot_ne (Or.inl (wd hw 101 rfl)) (Or.inl (wd hw 63 rfl)) (by decide) (t := .int) (t' := (.array (.object "java/lang/Object"))) (by decide) (by decide)))
  exact g_return C d6_11 rfl (Nat.le_of_ble_eq_true rfl) (Nat.le_of_ble_eq_true rfl) (⟨rfl, f65, ga, f66, f67, f68, f69⟩)
theorem d16_0 : decode jdk_29_method_65_code 0 = .ok (.iload_n 0, 1) := by decide +kernel
theorem d16_1 : decode jdk_29_method_65_code 1 = .ok (.iload_n 1, 1) := by decide +kernel
theorem d16_2 : decode jdk_29_method_65_code 2 = .ok (.if_icmp .lt 7, 3) := by decide +kernel
theorem d16_5 : decode jdk_29_method_65_code 5 = .ok (.iload_n 0, 1) := by decide +kernel
theorem d16_6 : decode jdk_29_method_65_code 6 = .ok (.goto 4, 3) := by decide +kernel
theorem d16_10 : decode jdk_29_method_65_code 10 = .ok (.ireturn, 1) := by decide +kernel
set_option maxRecDepth 65536 in
set_option maxHeartbeats 40000000 in
theorem max_10_1 (l : Launch) (Z : State) (a0 : Array Value) (hw : ∀ d ∈ tables_1, d.before a0 Z = true) (n0 : Nat) (h : Heap) (O : Old Z n0 h) (s_I32 : Addr) (s_DEF : Addr) (s_EL : Addr) (s_EA : Addr) (mr : Addr) (H : En Z s_I32 s_DEF s_EL s_EA mr) : Con l Z (⟨"java/lang/Math", "max", "(II)I"⟩ : MethodName) jdk_29_method_65_code 2 (some .int) ({ frames := 0, cells := 0, slots := 0, locals := 0 } : Room) #[(.int (10 : Int32)), (.int (1 : Int32))] h n0 (fun v h' => v = some (.int (10 : Int32)) ∧ h' = h) := by
  refine Con.mk (Ls := #[.val (.int (10 : Int32)), .val (.int (1 : Int32))]) (Jvm.Free.JP.mathPlain rfl (by decide +kernel)) (fun m => by first | (simp [entryFrame, mkF, argsToLocals, Value.category]; done) | rfl) (fun w C => ?_)
  replace C : Cx w l Z "java/lang/Math" jdk_29_method_65_code 2 (some .int) "max" ({ frames := 0, cells := 0, slots := 0, locals := 0 } : Room) n0 := C
  obtain ⟨S_I32, E_I32, S_DEF, E_DEF, V_DEF, S_EL, E_EL, F_EL, V_EA, MIR⟩ := id H
  refine g_iloadN C (pc' := 1) d16_0 rfl rfl ?_
  refine g_iloadN C (pc' := 2) d16_1 rfl rfl ?_
  refine g_icN C (pc' := 5) d16_2 rfl (by decide) rfl ?_
  refine g_iloadN C (pc' := 6) d16_5 rfl rfl ?_
  refine g_goto C (pc' := 10) d16_6 (by decide) rfl ?_
  exact g_ireturn C d16_10 rfl (Nat.le_of_ble_eq_true rfl) (Nat.le_of_ble_eq_true rfl) (⟨rfl, rfl⟩)
theorem d15_0 : decode jdk_38_method_6_code 0 = .ok (.aload_n 0, 1) := by decide +kernel
theorem d15_1 : decode jdk_38_method_6_code 1 = .ok (.getfield 9, 3) := by decide +kernel
theorem d15_4 : decode jdk_38_method_6_code 4 = .ok (.arraylength, 1) := by decide +kernel
theorem d15_5 : decode jdk_38_method_6_code 5 = .ok (.istore_n 2, 1) := by decide +kernel
theorem d15_6 : decode jdk_38_method_6_code 6 = .ok (.iload_n 2, 1) := by decide +kernel
theorem d15_7 : decode jdk_38_method_6_code 7 = .ok (.ifCond .gt 13, 3) := by decide +kernel
theorem d15_10 : decode jdk_38_method_6_code 10 = .ok (.aload_n 0, 1) := by decide +kernel
theorem d15_11 : decode jdk_38_method_6_code 11 = .ok (.getfield 9, 3) := by decide +kernel
theorem d15_14 : decode jdk_38_method_6_code 14 = .ok (.getstatic 39, 3) := by decide +kernel
theorem d15_17 : decode jdk_38_method_6_code 17 = .ok (.if_acmp .eq 28, 3) := by decide +kernel
theorem d15_45 : decode jdk_38_method_6_code 45 = .ok (.aload_n 0, 1) := by decide +kernel
theorem d15_46 : decode jdk_38_method_6_code 46 = .ok (.bipush 10, 2) := by decide +kernel
theorem d15_48 : decode jdk_38_method_6_code 48 = .ok (.iload_n 1, 1) := by decide +kernel
theorem d15_49 : decode jdk_38_method_6_code 49 = .ok (.invokestatic 79, 3) := by decide +kernel
theorem pd_11 : parseMethodDescriptor "(II)I" = some ⟨[.int, .int], some .int⟩ := by decide +kernel
theorem d15_52 : decode jdk_38_method_6_code 52 = .ok (.anewarray 7, 3) := by decide +kernel
theorem d15_55 : decode jdk_38_method_6_code 55 = .ok (.dup_x1, 1) := by decide +kernel
theorem d15_56 : decode jdk_38_method_6_code 56 = .ok (.putfield 9, 3) := by decide +kernel
theorem d15_59 : decode jdk_38_method_6_code 59 = .ok (.areturn, 1) := by decide +kernel
set_option maxRecDepth 65536 in
set_option maxHeartbeats 40000000 in
theorem growI (l : Launch) (Z : State) (a0 : Array Value) (hw : ∀ d ∈ tables_1, d.before a0 Z = true) (n0 : Nat) (h : Heap) (O : Old Z n0 h) (s_I32 : Addr) (s_DEF : Addr) (s_EL : Addr) (s_EA : Addr) (mr : Addr) (H : En Z s_I32 s_DEF s_EL s_EA mr) (a : Addr) (mc : Int32) (P : AL0 Z n0 h a s_DEF mc) : Con l Z (⟨"java/util/ArrayList", "grow", "(I)[Ljava/lang/Object;"⟩ : MethodName) jdk_38_method_6_code 4 (some (.array (.object "java/lang/Object"))) ({ frames := 1, cells := 1, slots := 10, locals := 14 } : Room) #[(.ref a), (.int (1 : Int32))] h n0 (fun v h' => ∃ g kG, v = some (.ref g) ∧ h.size ≤ g ∧ Keep h h' [a] ∧ Exa Z h' a "java/util/ArrayList" ∧ Exa Z h' g "[Ljava/lang/Object;" ∧ Ovr Z kG "java/lang/Object" ∧ Fld Z h' a "java/util/AbstractList" "modCount" "I" (.int mc) ∧ Fld Z h' a "java/util/ArrayList" "elementData" "[Ljava/lang/Object;" (.ref g) ∧ Fld Z h' a "java/util/ArrayList" "size" "I" (.int (0 : Int32)) ∧ Arv Z h' g kG (.object "java/lang/Object") (10 : Int32) [.null, .null, .null, .null, .null, .null, .null, .null, .null, .null] .null) := by
  refine Con.mk (Ls := #[.val (.ref a), .val (.int (1 : Int32)), .unset, .unset]) (plainFor_of_name pn_9) (fun m => by first | (simp [entryFrame, mkF, argsToLocals, Value.category]; done) | rfl) (fun w C => ?_)
  replace C : Cx w l Z "java/util/ArrayList" jdk_38_method_6_code 4 (some (.array (.object "java/lang/Object"))) "grow" ({ frames := 1, cells := 1, slots := 10, locals := 14 } : Room) n0 := C
  obtain ⟨S_I32, E_I32, S_DEF, E_DEF, V_DEF, S_EL, E_EL, F_EL, V_EA, MIR⟩ := id H
  obtain ⟨kD, V_DEF⟩ := V_DEF
  obtain ⟨kEA, V_EA⟩ := V_EA
  obtain ⟨ga, E0, F1, F2, F3⟩ := P
  refine g_aloadN C (pc' := 1) d15_0 rfl rfl rfl ?_
  refine g_getF C (pc' := 4) (wd hw 62 rfl) Via.refl d15_1 rfl F2 rfl ?_
  refine g_alen C (pc' := 5) d15_4 rfl (V_DEF.ext O.2) rfl ?_
  refine g_istoreN C (pc' := 6) (Ls' := #[.val (.ref a), .val (.int (1 : Int32)), .val (.int (0 : Int32)), .unset]) d15_5 rfl rfl rfl ?_
  refine g_iloadN C (pc' := 7) d15_6 rfl rfl ?_
  refine g_ifN C (pc' := 10) d15_7 rfl (by decide) rfl ?_
  refine g_aloadN C (pc' := 11) d15_10 rfl rfl rfl ?_
  refine g_getF C (pc' := 14) (wd hw 62 rfl) Via.refl d15_11 rfl F2 rfl ?_
  refine g_getS C (pc' := 17) (wd hw 61 rfl) Via.refl d15_14 (S_DEF.ext O.2) rfl ?_
  refine g_acmp C (pc' := 45) (same := true) d15_17 rfl rfl rfl (decide_eq_true rfl) (by decide) (by decide) ?_
  refine g_aloadN C (pc' := 46) d15_45 rfl rfl rfl ?_
  refine g_bipush C (pc' := 48) (v := (10 : Int32)) d15_46 (by decide) rfl ?_
  refine g_iloadN C (pc' := 49) d15_48 rfl rfl ?_
  refine g_callS C (pc' := 52) (k' := 0) (n' := 0) (argsL := [(.int (10 : Int32)), (.int (1 : Int32))]) (rest := [(.ref a)]) (wd hw 117 rfl) (wd hw 118 rfl) (wd hw 119 rfl) (wd hw 120 rfl) (by decide) d15_49 pd_11 rfl rfl rfl (max_10_1 l Z a0 hw n0 h O s_I32 s_DEF s_EL s_EA mr H) (Nat.le_of_ble_eq_true rfl) (Nat.le_of_ble_eq_true rfl) (Nat.le_of_ble_eq_true rfl) (Nat.le_of_ble_eq_true rfl) rfl rfl rfl (fun v71 h70 q72 => ?_)
  obtain ⟨rfl, eh70⟩ := q72
  subst h70
  show G w _ h 0 0 52 #[.val (.ref a), .val (.int (1 : Int32)), .val (.int (0 : Int32)), .unset] [(.int (10 : Int32)), (.ref a)]
  refine g_newRE C (pc' := 55) (k' := 1) (n' := 10) (cap := 10) (ad := "[Ljava/lang/Object;") (wd hw 121 rfl) (wd hw 122 rfl) (by decide) d15_52 rfl (by decide) (by decide) (by decide) (by decide) (by decide) rfl rfl rfl (fun h73 b74 kA75 ex76 E77 A78 B80 Ov79 => ?_)
  have ne_a_b74 : a ≠ b74 := Nat.ne_of_lt (by rw [ex76]; exact E0.lt)
  have ne_s_DEF_b74 : s_DEF ≠ b74 := Nat.ne_of_lt (by rw [ex76]; exact (V_DEF.ext O.2).lt)
  have ge_b74 : n0 ≤ b74 := by rw [ex76]; exact O.1 ▸ O.2.1
  have sz_b74 : h.size ≤ b74 := by rw [ex76]; exact (Keep.refl h [a]).1
  have f81 := O.ext E77
  have f82 := (Keep.refl h [a]).ext E77
  have f83 := E0.ext E77
  have f84 := F1.ext E77
  have f85 := F2.ext E77
  have f86 := F3.ext E77
  have f87 := (V_DEF.ext O.2).ext E77
  have A88 : Arv Z h73 b74 kA75 (.object "java/lang/Object") (10 : Int32) [.null, .null, .null, .null, .null, .null, .null, .null, .null, .null] .null := A78.pad (pad_rep [] .null 10)
  refine g_dup_x1 C (pc' := 56) d15_55 rfl rfl rfl rfl ?_
  refine g_putF C (pc' := 59) (ty := (.array (.object "java/lang/Object"))) (wd hw 62 rfl) Via.refl d15_56 rfl f85 f83 (Or.inl (wd hw 63 rfl)) (wd hw 41 rfl) (by decide) rfl rfl ga rfl (fun h89 W90 => ?_)
  have f91 := f81.wr W90 ga
  have f92 := f82.wr W90 (Or.inl (List.mem_of_getElem? (i := 0) rfl))
  have f93 := f83.wr W90
  have f94 := f84.other W90 (Or.inr (slot_ne (Or.inl (wd hw 60 rfl)) (Or.inl (wd hw 63 rfl)) (by decide) (t := .int) (t' := (.array (.object "java/lang/Object"))) (by decide) (by decide)))
  have f95 := f85.same W90
  have f96 := f86.other W90 (Or.inr (slot_ne (Or.inl (wd hw 101 rfl)) (Or.inl (wd hw 63 rfl)) (by decide) (t := .int) (t' := (.array (.object "java/lang/Object"))) (by decide) (by decide)))
  have f97 := f87.other W90 (O.ne V_DEF.lt ga)
  have f98 := A88.other W90 (Ne.symm ne_a_b74)
  have f99 := B80.wr W90
  exact g_areturn C d15_59 rfl rfl rfl rfl (Nat.le_of_ble_eq_true rfl) (Nat.le_of_ble_eq_true rfl) (⟨b74, kA75, rfl, sz_b74, f92, f93, f99, Ov79, f94, f95, f96, f98⟩)
theorem d14_0 : decode jdk_38_method_7_code 0 = .ok (.aload_n 0, 1) := by decide +kernel
theorem d14_1 : decode jdk_38_method_7_code 1 = .ok (.aload_n 0, 1) := by decide +kernel
theorem d14_2 : decode jdk_38_method_7_code 2 = .ok (.getfield 48, 3) := by decide +kernel
theorem d14_5 : decode jdk_38_method_7_code 5 = .ok (.iconst 1, 1) := by decide +kernel
theorem d14_6 : decode jdk_38_method_7_code 6 = .ok (.iadd, 1) := by decide +kernel
theorem d14_7 : decode jdk_38_method_7_code 7 = .ok (.invokevirtual 69, 3) := by decide +kernel
theorem pd_10 : parseMethodDescriptor "(I)[Ljava/lang/Object;" = some ⟨[.int], some (.array (.object "java/lang/Object"))⟩ := by decide +kernel
theorem d14_10 : decode jdk_38_method_7_code 10 = .ok (.areturn, 1) := by decide +kernel
set_option maxRecDepth 65536 in
set_option maxHeartbeats 40000000 in
theorem grow0 (l : Launch) (Z : State) (a0 : Array Value) (hw : ∀ d ∈ tables_1, d.before a0 Z = true) (n0 : Nat) (h : Heap) (O : Old Z n0 h) (s_I32 : Addr) (s_DEF : Addr) (s_EL : Addr) (s_EA : Addr) (mr : Addr) (H : En Z s_I32 s_DEF s_EL s_EA mr) (a : Addr) (mc : Int32) (P : AL0 Z n0 h a s_DEF mc) : Con l Z (⟨"java/util/ArrayList", "grow", "()[Ljava/lang/Object;"⟩ : MethodName) jdk_38_method_7_code 1 (some (.array (.object "java/lang/Object"))) ({ frames := 2, cells := 1, slots := 10, locals := 29 } : Room) #[(.ref a)] h n0 (fun v h' => ∃ g kG, v = some (.ref g) ∧ h.size ≤ g ∧ Keep h h' [a] ∧ Exa Z h' a "java/util/ArrayList" ∧ Exa Z h' g "[Ljava/lang/Object;" ∧ Ovr Z kG "java/lang/Object" ∧ Fld Z h' a "java/util/AbstractList" "modCount" "I" (.int mc) ∧ Fld Z h' a "java/util/ArrayList" "elementData" "[Ljava/lang/Object;" (.ref g) ∧ Fld Z h' a "java/util/ArrayList" "size" "I" (.int (0 : Int32)) ∧ Arv Z h' g kG (.object "java/lang/Object") (10 : Int32) [.null, .null, .null, .null, .null, .null, .null, .null, .null, .null] .null) := by
  refine Con.mk (Ls := #[.val (.ref a)]) (plainFor_of_name pn_9) (fun m => by first | (simp [entryFrame, mkF, argsToLocals, Value.category]; done) | rfl) (fun w C => ?_)
  replace C : Cx w l Z "java/util/ArrayList" jdk_38_method_7_code 1 (some (.array (.object "java/lang/Object"))) "grow" ({ frames := 2, cells := 1, slots := 10, locals := 29 } : Room) n0 := C
  obtain ⟨S_I32, E_I32, S_DEF, E_DEF, V_DEF, S_EL, E_EL, F_EL, V_EA, MIR⟩ := id H
  obtain ⟨kD, V_DEF⟩ := V_DEF
  obtain ⟨kEA, V_EA⟩ := V_EA
  obtain ⟨ga, E0, F1, F2, F3⟩ := P
  refine g_aloadN C (pc' := 1) d14_0 rfl rfl rfl ?_
  refine g_aloadN C (pc' := 2) d14_1 rfl rfl rfl ?_
  refine g_getF C (pc' := 5) (wd hw 100 rfl) Via.refl d14_2 rfl F3 rfl ?_
  refine g_iconst C (pc' := 6) (v := (1 : Int32)) d14_5 (by decide) rfl ?_
  refine g_iadd C (pc' := 7) d14_6 rfl rfl ?_
  rw [show ((0 : Int32) + (1 : Int32)) = (1 : Int32) from by decide]
  refine g_private C (pc' := 10) (k' := 1) (n' := 10) (argsL := [(.int (1 : Int32))]) (rest := []) (wd hw 112 rfl) (wd hw 113 rfl) (wd hw 41 rfl) (wd hw 114 rfl) (wd hw 42 rfl) (wd hw 116 rfl) (by decide) d14_7 pd_10 rfl rfl rfl E0 (growI l Z a0 hw n0 h O s_I32 s_DEF s_EL s_EA mr H a mc ⟨ga, E0, F1, F2, F3⟩) (Nat.le_of_ble_eq_true rfl) (Nat.le_of_ble_eq_true rfl) (Nat.le_of_ble_eq_true rfl) (Nat.le_of_ble_eq_true rfl) rfl rfl rfl (fun v101 h100 q102 => ?_)
  obtain ⟨g, kG, rfl, q1, q2, q3, q4, q5, q6, q7, q8, q9⟩ := q102
  have f103 := O.keep q2 (allS ga all0)
  have f104 := (Keep.refl h [a]).trans q2 (allS (Or.inl (List.mem_of_getElem? (i := 0) rfl)) all0)
  have f105 := E0.keep q2
  have f106 := (V_DEF.ext O.2).keep q2 (ninS (O.ne V_DEF.lt ga) nin0)
  show G w _ h100 1 10 10 #[.val (.ref a)] [(.ref g)]
  exact g_areturn C d14_10 rfl rfl rfl rfl (Nat.le_of_ble_eq_true rfl) (Nat.le_of_ble_eq_true rfl) (⟨g, kG, rfl, q1, q2, q3, q4, q5, q6, q7, q8, q9⟩)
theorem d13_0 : decode jdk_38_method_24_code 0 = .ok (.iload_n 3, 1) := by decide +kernel
theorem d13_1 : decode jdk_38_method_24_code 1 = .ok (.aload_n 2, 1) := by decide +kernel
theorem d13_2 : decode jdk_38_method_24_code 2 = .ok (.arraylength, 1) := by decide +kernel
theorem d13_3 : decode jdk_38_method_24_code 3 = .ok (.if_icmp .ne 8, 3) := by decide +kernel
theorem d13_6 : decode jdk_38_method_24_code 6 = .ok (.aload_n 0, 1) := by decide +kernel
theorem d13_7 : decode jdk_38_method_24_code 7 = .ok (.invokevirtual 129, 3) := by decide +kernel
theorem pd_9 : parseMethodDescriptor "()[Ljava/lang/Object;" = some ⟨[], some (.array (.object "java/lang/Object"))⟩ := by decide +kernel
theorem d13_10 : decode jdk_38_method_24_code 10 = .ok (.astore_n 2, 1) := by decide +kernel
theorem d13_11 : decode jdk_38_method_24_code 11 = .ok (.aload_n 2, 1) := by decide +kernel
theorem d13_12 : decode jdk_38_method_24_code 12 = .ok (.iload_n 3, 1) := by decide +kernel
theorem d13_13 : decode jdk_38_method_24_code 13 = .ok (.aload_n 1, 1) := by decide +kernel
theorem d13_14 : decode jdk_38_method_24_code 14 = .ok (.aastore, 1) := by decide +kernel
theorem d13_15 : decode jdk_38_method_24_code 15 = .ok (.aload_n 0, 1) := by decide +kernel
theorem d13_16 : decode jdk_38_method_24_code 16 = .ok (.iload_n 3, 1) := by decide +kernel
theorem d13_17 : decode jdk_38_method_24_code 17 = .ok (.iconst 1, 1) := by decide +kernel
theorem d13_18 : decode jdk_38_method_24_code 18 = .ok (.iadd, 1) := by decide +kernel
theorem d13_19 : decode jdk_38_method_24_code 19 = .ok (.putfield 48, 3) := by decide +kernel
theorem d13_22 : decode jdk_38_method_24_code 22 = .ok (.return_, 1) := by decide +kernel
set_option maxRecDepth 65536 in
set_option maxHeartbeats 40000000 in
theorem add3_0 (l : Launch) (Z : State) (a0 : Array Value) (hw : ∀ d ∈ tables_1, d.before a0 Z = true) (n0 : Nat) (h : Heap) (O : Old Z n0 h) (s_I32 : Addr) (s_DEF : Addr) (s_EL : Addr) (s_EA : Addr) (mr : Addr) (H : En Z s_I32 s_DEF s_EL s_EA mr) (a : Addr) (mc : Int32) (x : Addr) (Ex : Exa Z h x "com/example/strictwire/strictwire/Field") (P : AL0 Z n0 h a s_DEF mc) : Con l Z (⟨"java/util/ArrayList", "add", "(Ljava/lang/Object;[Ljava/lang/Object;I)V"⟩ : MethodName) jdk_38_method_24_code 4 none ({ frames := 3, cells := 1, slots := 10, locals := 41 } : Room) #[(.ref a), (.ref x), (.ref s_DEF), (.int (0 : Int32))] h n0 (fun v h' => v = none ∧ Keep h h' [a] ∧ ∃ ed kE, h.size ≤ ed ∧ AL1 Z n0 h' a ed kE mc (1 : Int32) [(.ref x), .null, .null, .null, .null, .null, .null, .null, .null, .null]) := by
  refine Con.mk (Ls := #[.val (.ref a), .val (.ref x), .val (.ref s_DEF), .val (.int (0 : Int32))]) (plainFor_of_name pn_9) (fun m => by first | (simp [entryFrame, mkF, argsToLocals, Value.category]; done) | rfl) (fun w C => ?_)
  replace C : Cx w l Z "java/util/ArrayList" jdk_38_method_24_code 4 none "add" ({ frames := 3, cells := 1, slots := 10, locals := 41 } : Room) n0 := C
  obtain ⟨S_I32, E_I32, S_DEF, E_DEF, V_DEF, S_EL, E_EL, F_EL, V_EA, MIR⟩ := id H
  obtain ⟨kD, V_DEF⟩ := V_DEF
  obtain ⟨kEA, V_EA⟩ := V_EA
  obtain ⟨ga, E0, F1, F2, F3⟩ := P
  refine g_iloadN C (pc' := 1) d13_0 rfl rfl ?_
  refine g_aloadN C (pc' := 2) d13_1 rfl rfl rfl ?_
  refine g_alen C (pc' := 3) d13_2 rfl (V_DEF.ext O.2) rfl ?_
  refine g_icN C (pc' := 6) d13_3 rfl (by decide) rfl ?_
  refine g_aloadN C (pc' := 7) d13_6 rfl rfl rfl ?_
  refine g_private C (pc' := 10) (k' := 1) (n' := 10) (argsL := []) (rest := []) (wd hw 107 rfl) (wd hw 108 rfl) (wd hw 41 rfl) (wd hw 109 rfl) (wd hw 42 rfl) (wd hw 111 rfl) (by decide) d13_7 pd_9 rfl rfl rfl E0 (grow0 l Z a0 hw n0 h O s_I32 s_DEF s_EL s_EA mr H a mc ⟨ga, E0, F1, F2, F3⟩) (Nat.le_of_ble_eq_true rfl) (Nat.le_of_ble_eq_true rfl) (Nat.le_of_ble_eq_true rfl) (Nat.le_of_ble_eq_true rfl) rfl rfl rfl (fun v108 h107 q109 => ?_)
  obtain ⟨g, kG, rfl, q1, q2, q3, q4, q5, q6, q7, q8, q9⟩ := q109
  have ne_a_g : a ≠ g := Nat.ne_of_lt (Nat.lt_of_lt_of_le E0.lt q1)
  have ne_s_DEF_g : s_DEF ≠ g := Nat.ne_of_lt (Nat.lt_of_lt_of_le (V_DEF.ext O.2).lt q1)
  have ne_x_g : x ≠ g := Nat.ne_of_lt (Nat.lt_of_lt_of_le Ex.lt q1)
  have ge_g : n0 ≤ g := Nat.le_trans (O.1 ▸ O.2.1) q1
  have sz_g : h.size ≤ g := Nat.le_trans (Keep.refl h [a]).1 q1
  have f110 := O.keep q2 (allS ga all0)
  have f111 := (Keep.refl h [a]).trans q2 (allS (Or.inl (List.mem_of_getElem? (i := 0) rfl)) all0)
  have f112 := E0.keep q2
  have f113 := (V_DEF.ext O.2).keep q2 (ninS (O.ne V_DEF.lt ga) nin0)
  have f114 := Ex.keep q2
  show G w _ h107 1 10 10 #[.val (.ref a), .val (.ref x), .val (.ref s_DEF), .val (.int (0 : Int32))] [(.ref g)]
  refine g_astoreN C (pc' := 11) (Ls' := #[.val (.ref a), .val (.ref x), .val (.ref g), .val (.int (0 : Int32))]) d13_10 rfl rfl rfl rfl ?_
  refine g_aloadN C (pc' := 12) d13_11 rfl rfl rfl ?_
  refine g_iloadN C (pc' := 13) d13_12 rfl rfl ?_
  refine g_aloadN C (pc' := 14) d13_13 rfl rfl rfl ?_
  refine g_aastore C (pc' := 15) d13_14 rfl q9 rfl (stoR q9 q5 (Ins.of_exa f114 (wd hw 123 rfl))) (by decide) (by decide) ge_g rfl (fun h115 W116 => ?_)
  have f117 := f110.wr W116 ge_g
  have f118 := f111.wr W116 (Or.inr sz_g)
  have f119 := q3.wr W116
  have f120 := f113.other W116 ne_s_DEF_g
  have f121 := f114.wr W116
  have f122 := q4.wr W116
  have f123 := q6.other W116 (Or.inl ne_a_g)
  have f124 := q7.other W116 (Or.inl ne_a_g)
  have f125 := q8.other W116 (Or.inl ne_a_g)
  have f126 := (arv_put q9 rfl W116 (i := 0) rfl (Nat.le_of_ble_eq_true rfl) : Arv Z h115 g kG (.object "java/lang/Object") (10 : Int32) [(.ref x), .null, .null, .null, .null, .null, .null, .null, .null, .null] .null)
  refine g_aloadN C (pc' := 16) d13_15 rfl rfl rfl ?_
  refine g_iloadN C (pc' := 17) d13_16 rfl rfl ?_
  refine g_iconst C (pc' := 18) (v := (1 : Int32)) d13_17 (by decide) rfl ?_
  refine g_iadd C (pc' := 19) d13_18 rfl rfl ?_
  rw [show ((0 : Int32) + (1 : Int32)) = (1 : Int32) from by decide]
  refine g_putF C (pc' := 22) (ty := .int) (wd hw 100 rfl) Via.refl d13_19 rfl f125 f119 (Or.inl (wd hw 101 rfl)) (wd hw 41 rfl) (by decide) rfl rfl ga rfl (fun h127 W128 => ?_)
  have f129 := f117.wr W128 ga
  have f130 := f118.wr W128 (Or.inl (List.mem_of_getElem? (i := 0) rfl))
  have f131 := f119.wr W128
  have f132 := f120.other W128 (O.ne V_DEF.lt ga)
  have f133 := f121.wr W128
  have f134 := f122.wr W128
  have f135 := f123.other W128 (Or.inr (slot_ne (Or.inl (wd hw 60 rfl)) (Or.inl (wd hw 101 rfl)) (by decide) (t := .int) (t' := .int) (by decide) (by decide)))
  have f136 := f124.other W128 (Or.inr (slot_ne (Or.inl (wd hw 63 rfl)) (Or.inl (wd hw 101 rfl)) (by decide) (t := (.array (.object "java/lang/Object"))) (t' := .int) (by decide) (by decide)))
  have f137 := f125.same W128
  have f138 := f126.other W128 (Ne.symm ne_a_g)
  exact g_return C d13_22 rfl (Nat.le_of_ble_eq_true rfl) (Nat.le_of_ble_eq_true rfl) (⟨rfl, f130, g, kG, sz_g, ga, ge_g, ne_a_g, q5, f131, f134, f135, f136, f137, f138⟩)
theorem d12_0 : decode jdk_38_method_25_code 0 = .ok (.aload_n 0, 1) := by decide +kernel
theorem d12_1 : decode jdk_38_method_25_code 1 = .ok (.dup, 1) := by decide +kernel
theorem d12_2 : decode jdk_38_method_25_code 2 = .ok (.getfield 63, 3) := by decide +kernel
theorem d12_5 : decode jdk_38_method_25_code 5 = .ok (.iconst 1, 1) := by decide +kernel
theorem d12_6 : decode jdk_38_method_25_code 6 = .ok (.iadd, 1) := by decide +kernel
theorem d12_7 : decode jdk_38_method_25_code 7 = .ok (.putfield 63, 3) := by decide +kernel
theorem d12_10 : decode jdk_38_method_25_code 10 = .ok (.aload_n 0, 1) := by decide +kernel
theorem d12_11 : decode jdk_38_method_25_code 11 = .ok (.aload_n 1, 1) := by decide +kernel
theorem d12_12 : decode jdk_38_method_25_code 12 = .ok (.aload_n 0, 1) := by decide +kernel
theorem d12_13 : decode jdk_38_method_25_code 13 = .ok (.getfield 9, 3) := by decide +kernel
theorem d12_16 : decode jdk_38_method_25_code 16 = .ok (.aload_n 0, 1) := by decide +kernel
theorem d12_17 : decode jdk_38_method_25_code 17 = .ok (.getfield 48, 3) := by decide +kernel
theorem d12_20 : decode jdk_38_method_25_code 20 = .ok (.invokevirtual 131, 3) := by decide +kernel
theorem pd_8 : parseMethodDescriptor "(Ljava/lang/Object;[Ljava/lang/Object;I)V" = some ⟨[(.object "java/lang/Object"), (.array (.object "java/lang/Object")), .int], none⟩ := by decide +kernel
theorem d12_23 : decode jdk_38_method_25_code 23 = .ok (.iconst 1, 1) := by decide +kernel
theorem d12_24 : decode jdk_38_method_25_code 24 = .ok (.ireturn, 1) := by decide +kernel
set_option maxRecDepth 65536 in
set_option maxHeartbeats 40000000 in
theorem add_0 (l : Launch) (Z : State) (a0 : Array Value) (hw : ∀ d ∈ tables_1, d.before a0 Z = true) (n0 : Nat) (h : Heap) (O : Old Z n0 h) (s_I32 : Addr) (s_DEF : Addr) (s_EL : Addr) (s_EA : Addr) (mr : Addr) (H : En Z s_I32 s_DEF s_EL s_EA mr) (a : Addr) (mc : Int32) (x : Addr) (Ex : Exa Z h x "com/example/strictwire/strictwire/Field") (P : AL0 Z n0 h a s_DEF mc) : Con l Z (⟨"java/util/ArrayList", "add", "(Ljava/lang/Object;)Z"⟩ : MethodName) jdk_38_method_25_code 2 (some .boolean) ({ frames := 4, cells := 1, slots := 10, locals := 56 } : Room) #[(.ref a), (.ref x)] h n0 (fun v h' => v = some (.int (1 : Int32)) ∧ Keep h h' [a] ∧ ∃ ed kE, h.size ≤ ed ∧ AL1 Z n0 h' a ed kE (mc + (1 : Int32)) (1 : Int32) [(.ref x), .null, .null, .null, .null, .null, .null, .null, .null, .null]) := by
  refine Con.mk (Ls := #[.val (.ref a), .val (.ref x)]) (plainFor_of_name pn_9) (fun m => by first | (simp [entryFrame, mkF, argsToLocals, Value.category]; done) | rfl) (fun w C => ?_)
  replace C : Cx w l Z "java/util/ArrayList" jdk_38_method_25_code 2 (some .boolean) "add" ({ frames := 4, cells := 1, slots := 10, locals := 56 } : Room) n0 := C
  obtain ⟨S_I32, E_I32, S_DEF, E_DEF, V_DEF, S_EL, E_EL, F_EL, V_EA, MIR⟩ := id H
  obtain ⟨kD, V_DEF⟩ := V_DEF
  obtain ⟨kEA, V_EA⟩ := V_EA
  obtain ⟨ga, E0, F1, F2, F3⟩ := P
  refine g_aloadN C (pc' := 1) d12_0 rfl rfl rfl ?_
  refine g_dup C (pc' := 2) d12_1 rfl rfl rfl ?_
  refine g_getF C (pc' := 5) (wd hw 98 rfl) (Via.of (wd hw 99 rfl)) d12_2 rfl F1 rfl ?_
  refine g_iconst C (pc' := 6) (v := (1 : Int32)) d12_5 (by decide) rfl ?_
  refine g_iadd C (pc' := 7) d12_6 rfl rfl ?_
  refine g_putF C (pc' := 10) (ty := .int) (wd hw 98 rfl) (Via.of (wd hw 99 rfl)) d12_7 rfl F1 E0 (Or.inl (wd hw 60 rfl)) (wd hw 41 rfl) (by decide) rfl rfl ga rfl (fun h139 W140 => ?_)
  have f141 := O.wr W140 ga
  have f142 := (Keep.refl h [a]).wr W140 (Or.inl (List.mem_of_getElem? (i := 0) rfl))
  have f143 := E0.wr W140
  have f144 := F1.same W140
  have f145 := F2.other W140 (Or.inr (slot_ne (Or.inl (wd hw 63 rfl)) (Or.inl (wd hw 60 rfl)) (by decide) (t := (.array (.object "java/lang/Object"))) (t' := .int) (by decide) (by decide)))
  have f146 := F3.other W140 (Or.inr (slot_ne (Or.inl (wd hw 101 rfl)) (Or.inl (wd hw 60 rfl)) (by decide) (t := .int) (t' := .int) (by decide) (by decide)))
  have f147 := (V_DEF.ext O.2).other W140 (O.ne V_DEF.lt ga)
  have f148 := Ex.wr W140
  refine g_aloadN C (pc' := 11) d12_10 rfl rfl rfl ?_
  refine g_aloadN C (pc' := 12) d12_11 rfl rfl rfl ?_
  refine g_aloadN C (pc' := 13) d12_12 rfl rfl rfl ?_
  refine g_getF C (pc' := 16) (wd hw 62 rfl) Via.refl d12_13 rfl f145 rfl ?_
  refine g_aloadN C (pc' := 17) d12_16 rfl rfl rfl ?_
  refine g_getF C (pc' := 20) (wd hw 100 rfl) Via.refl d12_17 rfl f146 rfl ?_
  refine g_private C (pc' := 23) (k' := 1) (n' := 10) (argsL := [(.ref x), (.ref s_DEF), (.int (0 : Int32))]) (rest := []) (wd hw 102 rfl) (wd hw 103 rfl) (wd hw 41 rfl) (wd hw 104 rfl) (wd hw 42 rfl) (wd hw 106 rfl) (by decide) d12_20 pd_8 rfl rfl rfl f143 (add3_0 l Z a0 hw n0 h139 f141 s_I32 s_DEF s_EL s_EA mr H a (mc + (1 : Int32)) x f148 ⟨ga, f143, f144, f145, f146⟩) (Nat.le_of_ble_eq_true rfl) (Nat.le_of_ble_eq_true rfl) (Nat.le_of_ble_eq_true rfl) (Nat.le_of_ble_eq_true rfl) rfl rfl rfl (fun v150 h149 q151 => ?_)
  obtain ⟨rfl, q1, ed, kE, q2, q3⟩ := q151
  have ne_a_ed : a ≠ ed := Nat.ne_of_lt (Nat.lt_of_lt_of_le f143.lt q2)
  have ne_s_DEF_ed : s_DEF ≠ ed := Nat.ne_of_lt (Nat.lt_of_lt_of_le f147.lt q2)
  have ne_x_ed : x ≠ ed := Nat.ne_of_lt (Nat.lt_of_lt_of_le f148.lt q2)
  have ge_ed : n0 ≤ ed := Nat.le_trans (f141.1 ▸ f141.2.1) q2
  have sz_ed : h.size ≤ ed := Nat.le_trans f142.1 q2
  have f152 := f141.keep q1 (allS ga all0)
  have f153 := f142.trans q1 (allS (Or.inl (List.mem_of_getElem? (i := 0) rfl)) all0)
  have f154 := f143.keep q1
  have f155 := f147.keep q1 (ninS (O.ne V_DEF.lt ga) nin0)
  have f156 := f148.keep q1
  show G w _ h149 1 10 23 #[.val (.ref a), .val (.ref x)] []
  refine g_iconst C (pc' := 24) (v := (1 : Int32)) d12_23 (by decide) rfl ?_
  exact g_zreturn C d12_24 rfl rfl (Nat.le_of_ble_eq_true rfl) (Nat.le_of_ble_eq_true rfl) (⟨rfl, f153, ed, kE, sz_ed, q3⟩)
set_option maxRecDepth 65536 in
set_option maxHeartbeats 40000000 in
theorem add3_1 (l : Launch) (Z : State) (a0 : Array Value) (hw : ∀ d ∈ tables_1, d.before a0 Z = true) (n0 : Nat) (h : Heap) (O : Old Z n0 h) (s_I32 : Addr) (s_DEF : Addr) (s_EL : Addr) (s_EA : Addr) (mr : Addr) (H : En Z s_I32 s_DEF s_EL s_EA mr) (a ed : Addr) (kE : ClassId) (mc : Int32) (x0 : Addr) (x : Addr) (Ex : Exa Z h x "com/example/strictwire/strictwire/Field") (P : AL1 Z n0 h a ed kE mc (1 : Int32) [(.ref x0), .null, .null, .null, .null, .null, .null, .null, .null, .null]) : Con l Z (⟨"java/util/ArrayList", "add", "(Ljava/lang/Object;[Ljava/lang/Object;I)V"⟩ : MethodName) jdk_38_method_24_code 4 none ({ frames := 0, cells := 0, slots := 0, locals := 0 } : Room) #[(.ref a), (.ref x), (.ref ed), (.int (1 : Int32))] h n0 (fun v h' => v = none ∧ Keep h h' [a, ed] ∧ AL1 Z n0 h' a ed kE mc (2 : Int32) [(.ref x0), (.ref x), .null, .null, .null, .null, .null, .null, .null, .null]) := by
  refine Con.mk (Ls := #[.val (.ref a), .val (.ref x), .val (.ref ed), .val (.int (1 : Int32))]) (plainFor_of_name pn_9) (fun m => by first | (simp [entryFrame, mkF, argsToLocals, Value.category]; done) | rfl) (fun w C => ?_)
  replace C : Cx w l Z "java/util/ArrayList" jdk_38_method_24_code 4 none "add" ({ frames := 0, cells := 0, slots := 0, locals := 0 } : Room) n0 := C
  obtain ⟨S_I32, E_I32, S_DEF, E_DEF, V_DEF, S_EL, E_EL, F_EL, V_EA, MIR⟩ := id H
  obtain ⟨kD, V_DEF⟩ := V_DEF
  obtain ⟨kEA, V_EA⟩ := V_EA
  obtain ⟨ga, ge, nae, Ov, E0, Ee, F1, F2, F3, A1⟩ := P
  refine g_iloadN C (pc' := 1) d13_0 rfl rfl ?_
  refine g_aloadN C (pc' := 2) d13_1 rfl rfl rfl ?_
  refine g_alen C (pc' := 3) d13_2 rfl A1 rfl ?_
  refine g_icY C (pc' := 11) d13_3 rfl (by decide) (by decide) rfl ?_
  refine g_aloadN C (pc' := 12) d13_11 rfl rfl rfl ?_
  refine g_iloadN C (pc' := 13) d13_12 rfl rfl ?_
  refine g_aloadN C (pc' := 14) d13_13 rfl rfl rfl ?_
  refine g_aastore C (pc' := 15) d13_14 rfl A1 rfl (stoR A1 Ov (Ins.of_exa Ex (wd hw 123 rfl))) (by decide) (by decide) ge rfl (fun h157 W158 => ?_)
  have f159 := O.wr W158 ge
  have f160 := (Keep.refl h [a, ed]).wr W158 (Or.inl (List.mem_of_getElem? (i := 1) rfl))
  have f161 := E0.wr W158
  have f162 := F1.other W158 (Or.inl nae)
  have f163 := F2.other W158 (Or.inl nae)
  have f164 := F3.other W158 (Or.inl nae)
  have f165 := Ee.wr W158
  have f166 := (arv_put A1 rfl W158 (i := 1) rfl (Nat.le_of_ble_eq_true rfl) : Arv Z h157 ed kE (.object "java/lang/Object") (10 : Int32) [(.ref x0), (.ref x), .null, .null, .null, .null, .null, .null, .null, .null] .null)
  have f167 := Ex.wr W158
  refine g_aloadN C (pc' := 16) d13_15 rfl rfl rfl ?_
  refine g_iloadN C (pc' := 17) d13_16 rfl rfl ?_
  refine g_iconst C (pc' := 18) (v := (1 : Int32)) d13_17 (by decide) rfl ?_
  refine g_iadd C (pc' := 19) d13_18 rfl rfl ?_
  rw [show ((1 : Int32) + (1 : Int32)) = (2 : Int32) from by decide]
  refine g_putF C (pc' := 22) (ty := .int) (wd hw 100 rfl) Via.refl d13_19 rfl f164 f161 (Or.inl (wd hw 101 rfl)) (wd hw 41 rfl) (by decide) rfl rfl ga rfl (fun h168 W169 => ?_)
  have f170 := f159.wr W169 ga
  have f171 := f160.wr W169 (Or.inl (List.mem_of_getElem? (i := 0) rfl))
  have f172 := f161.wr W169
  have f173 := f162.other W169 (Or.inr (slot_ne (Or.inl (wd hw 60 rfl)) (Or.inl (wd hw 101 rfl)) (by decide) (t := .int) (t' := .int) (by decide) (by decide)))
  have f174 := f163.other W169 (Or.inr (slot_ne (Or.inl (wd hw 63 rfl)) (Or.inl (wd hw 101 rfl)) (by decide) (t := (.array (.object "java/lang/Object"))) (t' := .int) (by decide) (by decide)))
  have f175 := f164.same W169
  have f176 := f165.wr W169
  have f177 := f166.other W169 (Ne.symm nae)
  have f178 := f167.wr W169
  exact g_return C d13_22 rfl (Nat.le_of_ble_eq_true rfl) (Nat.le_of_ble_eq_true rfl) (⟨rfl, f171, ga, ge, nae, Ov, f172, f176, f173, f174, f175, f177⟩)
set_option maxRecDepth 65536 in
set_option maxHeartbeats 40000000 in
theorem add_1 (l : Launch) (Z : State) (a0 : Array Value) (hw : ∀ d ∈ tables_1, d.before a0 Z = true) (n0 : Nat) (h : Heap) (O : Old Z n0 h) (s_I32 : Addr) (s_DEF : Addr) (s_EL : Addr) (s_EA : Addr) (mr : Addr) (H : En Z s_I32 s_DEF s_EL s_EA mr) (a ed : Addr) (kE : ClassId) (mc : Int32) (x0 : Addr) (x : Addr) (Ex : Exa Z h x "com/example/strictwire/strictwire/Field") (P : AL1 Z n0 h a ed kE mc (1 : Int32) [(.ref x0), .null, .null, .null, .null, .null, .null, .null, .null, .null]) : Con l Z (⟨"java/util/ArrayList", "add", "(Ljava/lang/Object;)Z"⟩ : MethodName) jdk_38_method_25_code 2 (some .boolean) ({ frames := 1, cells := 0, slots := 0, locals := 15 } : Room) #[(.ref a), (.ref x)] h n0 (fun v h' => v = some (.int (1 : Int32)) ∧ Keep h h' [a, ed] ∧ AL1 Z n0 h' a ed kE (mc + (1 : Int32)) (2 : Int32) [(.ref x0), (.ref x), .null, .null, .null, .null, .null, .null, .null, .null]) := by
  refine Con.mk (Ls := #[.val (.ref a), .val (.ref x)]) (plainFor_of_name pn_9) (fun m => by first | (simp [entryFrame, mkF, argsToLocals, Value.category]; done) | rfl) (fun w C => ?_)
  replace C : Cx w l Z "java/util/ArrayList" jdk_38_method_25_code 2 (some .boolean) "add" ({ frames := 1, cells := 0, slots := 0, locals := 15 } : Room) n0 := C
  obtain ⟨S_I32, E_I32, S_DEF, E_DEF, V_DEF, S_EL, E_EL, F_EL, V_EA, MIR⟩ := id H
  obtain ⟨kD, V_DEF⟩ := V_DEF
  obtain ⟨kEA, V_EA⟩ := V_EA
  obtain ⟨ga, ge, nae, Ov, E0, Ee, F1, F2, F3, A1⟩ := P
  refine g_aloadN C (pc' := 1) d12_0 rfl rfl rfl ?_
  refine g_dup C (pc' := 2) d12_1 rfl rfl rfl ?_
  refine g_getF C (pc' := 5) (wd hw 98 rfl) (Via.of (wd hw 99 rfl)) d12_2 rfl F1 rfl ?_
  refine g_iconst C (pc' := 6) (v := (1 : Int32)) d12_5 (by decide) rfl ?_
  refine g_iadd C (pc' := 7) d12_6 rfl rfl ?_
  refine g_putF C (pc' := 10) (ty := .int) (wd hw 98 rfl) (Via.of (wd hw 99 rfl)) d12_7 rfl F1 E0 (Or.inl (wd hw 60 rfl)) (wd hw 41 rfl) (by decide) rfl rfl ga rfl (fun h179 W180 => ?_)
  have f181 := O.wr W180 ga
  have f182 := (Keep.refl h [a, ed]).wr W180 (Or.inl (List.mem_of_getElem? (i := 0) rfl))
  have f183 := E0.wr W180
  have f184 := F1.same W180
  have f185 := F2.other W180 (Or.inr (slot_ne (Or.inl (wd hw 63 rfl)) (Or.inl (wd hw 60 rfl)) (by decide) (t := (.array (.object "java/lang/Object"))) (t' := .int) (by decide) (by decide)))
  have f186 := F3.other W180 (Or.inr (slot_ne (Or.inl (wd hw 101 rfl)) (Or.inl (wd hw 60 rfl)) (by decide) (t := .int) (t' := .int) (by decide) (by decide)))
  have f187 := Ee.wr W180
  have f188 := A1.other W180 (Ne.symm nae)
  have f189 := Ex.wr W180
  refine g_aloadN C (pc' := 11) d12_10 rfl rfl rfl ?_
  refine g_aloadN C (pc' := 12) d12_11 rfl rfl rfl ?_
  refine g_aloadN C (pc' := 13) d12_12 rfl rfl rfl ?_
  refine g_getF C (pc' := 16) (wd hw 62 rfl) Via.refl d12_13 rfl f185 rfl ?_
  refine g_aloadN C (pc' := 17) d12_16 rfl rfl rfl ?_
  refine g_getF C (pc' := 20) (wd hw 100 rfl) Via.refl d12_17 rfl f186 rfl ?_
  refine g_private C (pc' := 23) (k' := 0) (n' := 0) (argsL := [(.ref x), (.ref ed), (.int (1 : Int32))]) (rest := []) (wd hw 102 rfl) (wd hw 103 rfl) (wd hw 41 rfl) (wd hw 104 rfl) (wd hw 42 rfl) (wd hw 106 rfl) (by decide) d12_20 pd_8 rfl rfl rfl f183 (add3_1 l Z a0 hw n0 h179 f181 s_I32 s_DEF s_EL s_EA mr H a ed kE (mc + (1 : Int32)) x0 x f189 ⟨ga, ge, nae, Ov, f183, f187, f184, f185, f186, f188⟩) (Nat.le_of_ble_eq_true rfl) (Nat.le_of_ble_eq_true rfl) (Nat.le_of_ble_eq_true rfl) (Nat.le_of_ble_eq_true rfl) rfl rfl rfl (fun v191 h190 q192 => ?_)
  obtain ⟨rfl, q1, q3⟩ := q192
  have f193 := f181.keep q1 (allS ga (allS ge all0))
  have f194 := f182.trans q1 (allS (Or.inl (List.mem_of_getElem? (i := 0) rfl)) (allS (Or.inl (List.mem_of_getElem? (i := 1) rfl)) all0))
  have f195 := f183.keep q1
  have f196 := f187.keep q1
  have f197 := f189.keep q1
  show G w _ h190 0 0 23 #[.val (.ref a), .val (.ref x)] []
  refine g_iconst C (pc' := 24) (v := (1 : Int32)) d12_23 (by decide) rfl ?_
  exact g_zreturn C d12_24 rfl rfl (Nat.le_of_ble_eq_true rfl) (Nat.le_of_ble_eq_true rfl) (⟨rfl, f194, q3⟩)
theorem d31_0 : decode jdk_31_method_10_code 0 = .ok (.aload_n 0, 1) := by decide +kernel
theorem d31_1 : decode jdk_31_method_10_code 1 = .ok (.ifnonnull 11, 3) := by decide +kernel
theorem d31_12 : decode jdk_31_method_10_code 12 = .ok (.aload_n 0, 1) := by decide +kernel
theorem d31_13 : decode jdk_31_method_10_code 13 = .ok (.areturn, 1) := by decide +kernel
set_option maxRecDepth 65536 in
set_option maxHeartbeats 40000000 in
theorem rnn (l : Launch) (Z : State) (a0 : Array Value) (hw : ∀ d ∈ tables_1, d.before a0 Z = true) (n0 : Nat) (h : Heap) (O : Old Z n0 h) (s_I32 : Addr) (s_DEF : Addr) (s_EL : Addr) (s_EA : Addr) (mr : Addr) (H : En Z s_I32 s_DEF s_EL s_EA mr) (x : Addr) : Con l Z (⟨"java/util/Objects", "requireNonNull", "(Ljava/lang/Object;)Ljava/lang/Object;"⟩ : MethodName) jdk_31_method_10_code 1 (some (.object "java/lang/Object")) ({ frames := 0, cells := 0, slots := 0, locals := 0 } : Room) #[(.ref x)] h n0 (fun v h' => v = some (.ref x) ∧ h' = h) := by
  refine Con.mk (Ls := #[.val (.ref x)]) (plainFor_of_name pn_16) (fun m => by first | (simp [entryFrame, mkF, argsToLocals, Value.category]; done) | rfl) (fun w C => ?_)
  replace C : Cx w l Z "java/util/Objects" jdk_31_method_10_code 1 (some (.object "java/lang/Object")) "requireNonNull" ({ frames := 0, cells := 0, slots := 0, locals := 0 } : Room) n0 := C
  obtain ⟨S_I32, E_I32, S_DEF, E_DEF, V_DEF, S_EL, E_EL, F_EL, V_EA, MIR⟩ := id H
  obtain ⟨kD, V_DEF⟩ := V_DEF
  obtain ⟨kEA, V_EA⟩ := V_EA
  refine g_aloadN C (pc' := 1) d31_0 rfl rfl rfl ?_
  refine g_ifnonnullY C (pc' := 12) d31_1 rfl (by decide) rfl ?_
  refine g_aloadN C (pc' := 13) d31_12 rfl rfl rfl ?_
  exact g_areturn C d31_13 rfl rfl rfl rfl (Nat.le_of_ble_eq_true rfl) (Nat.le_of_ble_eq_true rfl) (⟨rfl, rfl⟩)
theorem d22_0 : decode jdk_38_method_9_code 0 = .ok (.aload_n 0, 1) := by decide +kernel
theorem d22_1 : decode jdk_38_method_9_code 1 = .ok (.getfield 48, 3) := by decide +kernel
theorem d22_4 : decode jdk_38_method_9_code 4 = .ok (.ifCond .ne 7, 3) := by decide +kernel
theorem d22_7 : decode jdk_38_method_9_code 7 = .ok (.iconst 1, 1) := by decide +kernel
theorem d22_8 : decode jdk_38_method_9_code 8 = .ok (.goto 4, 3) := by decide +kernel
theorem d22_12 : decode jdk_38_method_9_code 12 = .ok (.ireturn, 1) := by decide +kernel
set_option maxRecDepth 65536 in
set_option maxHeartbeats 40000000 in
theorem alEmp_0 (l : Launch) (Z : State) (a0 : Array Value) (hw : ∀ d ∈ tables_1, d.before a0 Z = true) (n0 : Nat) (h : Heap) (O : Old Z n0 h) (s_I32 : Addr) (s_DEF : Addr) (s_EL : Addr) (s_EA : Addr) (mr : Addr) (H : En Z s_I32 s_DEF s_EL s_EA mr) (a : Addr) (mc : Int32) (P : AL0 Z n0 h a s_DEF mc) : Con l Z (⟨"java/util/ArrayList", "isEmpty", "()Z"⟩ : MethodName) jdk_38_method_9_code 1 (some .boolean) ({ frames := 0, cells := 0, slots := 0, locals := 0 } : Room) #[(.ref a)] h n0 (fun v h' => v = some (.int (1 : Int32)) ∧ h' = h) := by
  refine Con.mk (Ls := #[.val (.ref a)]) (plainFor_of_name pn_9) (fun m => by first | (simp [entryFrame, mkF, argsToLocals, Value.category]; done) | rfl) (fun w C => ?_)
  replace C : Cx w l Z "java/util/ArrayList" jdk_38_method_9_code 1 (some .boolean) "isEmpty" ({ frames := 0, cells := 0, slots := 0, locals := 0 } : Room) n0 := C
  obtain ⟨S_I32, E_I32, S_DEF, E_DEF, V_DEF, S_EL, E_EL, F_EL, V_EA, MIR⟩ := id H
  obtain ⟨kD, V_DEF⟩ := V_DEF
  obtain ⟨kEA, V_EA⟩ := V_EA
  obtain ⟨ga, E0, F1, F2, F3⟩ := P
  refine g_aloadN C (pc' := 1) d22_0 rfl rfl rfl ?_
  refine g_getF C (pc' := 4) (wd hw 100 rfl) Via.refl d22_1 rfl F3 rfl ?_
  refine g_ifN C (pc' := 7) d22_4 rfl (by decide) rfl ?_
  refine g_iconst C (pc' := 8) (v := (1 : Int32)) d22_7 (by decide) rfl ?_
  refine g_goto C (pc' := 12) d22_8 (by decide) rfl ?_
  exact g_zreturn C d22_12 rfl rfl (Nat.le_of_ble_eq_true rfl) (Nat.le_of_ble_eq_true rfl) (⟨rfl, rfl⟩)
theorem d22_11 : decode jdk_38_method_9_code 11 = .ok (.iconst 0, 1) := by decide +kernel
set_option maxRecDepth 65536 in
set_option maxHeartbeats 40000000 in
theorem alEmp_2 (l : Launch) (Z : State) (a0 : Array Value) (hw : ∀ d ∈ tables_1, d.before a0 Z = true) (n0 : Nat) (h : Heap) (O : Old Z n0 h) (s_I32 : Addr) (s_DEF : Addr) (s_EL : Addr) (s_EA : Addr) (mr : Addr) (H : En Z s_I32 s_DEF s_EL s_EA mr) (a ed : Addr) (kE : ClassId) (mc : Int32) (x0 x1 : Addr) (P : AL1 Z n0 h a ed kE mc (2 : Int32) [(.ref x0), (.ref x1), .null, .null, .null, .null, .null, .null, .null, .null]) : Con l Z (⟨"java/util/ArrayList", "isEmpty", "()Z"⟩ : MethodName) jdk_38_method_9_code 1 (some .boolean) ({ frames := 0, cells := 0, slots := 0, locals := 0 } : Room) #[(.ref a)] h n0 (fun v h' => v = some (.int (0 : Int32)) ∧ h' = h) := by
  refine Con.mk (Ls := #[.val (.ref a)]) (plainFor_of_name pn_9) (fun m => by first | (simp [entryFrame, mkF, argsToLocals, Value.category]; done) | rfl) (fun w C => ?_)
  replace C : Cx w l Z "java/util/ArrayList" jdk_38_method_9_code 1 (some .boolean) "isEmpty" ({ frames := 0, cells := 0, slots := 0, locals := 0 } : Room) n0 := C
  obtain ⟨S_I32, E_I32, S_DEF, E_DEF, V_DEF, S_EL, E_EL, F_EL, V_EA, MIR⟩ := id H
  obtain ⟨kD, V_DEF⟩ := V_DEF
  obtain ⟨kEA, V_EA⟩ := V_EA
  obtain ⟨ga, ge, nae, Ov, E0, Ee, F1, F2, F3, A1⟩ := P
  refine g_aloadN C (pc' := 1) d22_0 rfl rfl rfl ?_
  refine g_getF C (pc' := 4) (wd hw 100 rfl) Via.refl d22_1 rfl F3 rfl ?_
  refine g_ifY C (pc' := 11) d22_4 rfl (by decide) (by decide) rfl ?_
  refine g_iconst C (pc' := 12) (v := (0 : Int32)) d22_11 (by decide) rfl ?_
  exact g_zreturn C d22_12 rfl rfl (Nat.le_of_ble_eq_true rfl) (Nat.le_of_ble_eq_true rfl) (⟨rfl, rfl⟩)
theorem d32_0 : decode jdk_40_method_36_code 0 = .ok (.getstatic 90, 3) := by decide +kernel
theorem d32_3 : decode jdk_40_method_36_code 3 = .ok (.areturn, 1) := by decide +kernel
theorem pn_15 : plainName "java/util/List" = true := by first | (simp [plainName, overriddenIn]; done) | decide +kernel
set_option maxRecDepth 65536 in
set_option maxHeartbeats 40000000 in
theorem lof (l : Launch) (Z : State) (a0 : Array Value) (hw : ∀ d ∈ tables_1, d.before a0 Z = true) (n0 : Nat) (h : Heap) (O : Old Z n0 h) (s_I32 : Addr) (s_DEF : Addr) (s_EL : Addr) (s_EA : Addr) (mr : Addr) (H : En Z s_I32 s_DEF s_EL s_EA mr) : Con l Z (⟨"java/util/List", "of", "()Ljava/util/List;"⟩ : MethodName) jdk_40_method_36_code 0 (some (.object "java/util/List")) ({ frames := 0, cells := 0, slots := 0, locals := 0 } : Room) #[] h n0 (fun v h' => v = some (.ref s_EL) ∧ h' = h) := by
  refine Con.mk (Ls := #[]) (plainFor_of_name pn_15) (fun m => by first | (simp [entryFrame, mkF, argsToLocals, Value.category]; done) | rfl) (fun w C => ?_)
  replace C : Cx w l Z "java/util/List" jdk_40_method_36_code 0 (some (.object "java/util/List")) "of" ({ frames := 0, cells := 0, slots := 0, locals := 0 } : Room) n0 := C
  obtain ⟨S_I32, E_I32, S_DEF, E_DEF, V_DEF, S_EL, E_EL, F_EL, V_EA, MIR⟩ := id H
  obtain ⟨kD, V_DEF⟩ := V_DEF
  obtain ⟨kEA, V_EA⟩ := V_EA
  refine g_getS C (pc' := 3) (wd hw 229 rfl) Via.refl d32_0 (S_EL.ext O.2) rfl ?_
  exact g_areturn C d32_3 rfl rfl rfl rfl (Nat.le_of_ble_eq_true rfl) (Nat.le_of_ble_eq_true rfl) (⟨rfl, rfl⟩)
set_option maxRecDepth 65536 in
set_option maxHeartbeats 40000000 in
theorem i12_2 (l : Launch) (Z : State) (a0 : Array Value) (hw : ∀ d ∈ tables_1, d.before a0 Z = true) (n0 : Nat) (h : Heap) (O : Old Z n0 h) (s_I32 : Addr) (s_DEF : Addr) (s_EL : Addr) (s_EA : Addr) (mr : Addr) (H : En Z s_I32 s_DEF s_EL s_EA mr) (a : Addr) (E0 : Exa Z h a "java/util/ImmutableCollections$List12") : Con l Z (⟨"java/util/AbstractCollection", "<init>", "()V"⟩ : MethodName) jdk_22_method_1_code 1 none ({ frames := 1, cells := 0, slots := 0, locals := 12 } : Room) #[(.ref a)] h n0 (fun v h' => v = none ∧ h' = h) := by
  refine Con.mk (Ls := #[.val (.ref a)]) (plainFor_of_name pn_7) (fun m => by first | (simp [entryFrame, mkF, argsToLocals, Value.category]; done) | rfl) (fun w C => ?_)
  replace C : Cx w l Z "java/util/AbstractCollection" jdk_22_method_1_code 1 none "<init>" ({ frames := 1, cells := 0, slots := 0, locals := 12 } : Room) n0 := C
  obtain ⟨S_I32, E_I32, S_DEF, E_DEF, V_DEF, S_EL, E_EL, F_EL, V_EA, MIR⟩ := id H
  obtain ⟨kD, V_DEF⟩ := V_DEF
  obtain ⟨kEA, V_EA⟩ := V_EA
  refine g_aloadN C (pc' := 1) d8_0 rfl rfl rfl ?_
  refine g_initO C (pc' := 4) (wd hw 58 rfl) (wd hw 12 rfl) (wd hw 13 rfl) d8_1 rfl rfl (Nat.le_of_ble_eq_true rfl) (Nat.le_of_ble_eq_true rfl) rfl ?_
  exact g_return C d8_4 rfl (Nat.le_of_ble_eq_true rfl) (Nat.le_of_ble_eq_true rfl) (⟨rfl, rfl⟩)
theorem d30_0 : decode jdk_47_method_1_code 0 = .ok (.aload_n 0, 1) := by decide +kernel
theorem d30_1 : decode jdk_47_method_1_code 1 = .ok (.invokespecial 1, 3) := by decide +kernel
theorem d30_4 : decode jdk_47_method_1_code 4 = .ok (.return_, 1) := by decide +kernel
theorem pn_12 : plainName "java/util/ImmutableCollections$AbstractImmutableCollection" = true := by first | (simp [plainName, overriddenIn]; done) | decide +kernel
set_option maxRecDepth 65536 in
set_option maxHeartbeats 40000000 in
theorem i12_1 (l : Launch) (Z : State) (a0 : Array Value) (hw : ∀ d ∈ tables_1, d.before a0 Z = true) (n0 : Nat) (h : Heap) (O : Old Z n0 h) (s_I32 : Addr) (s_DEF : Addr) (s_EL : Addr) (s_EA : Addr) (mr : Addr) (H : En Z s_I32 s_DEF s_EL s_EA mr) (a : Addr) (E0 : Exa Z h a "java/util/ImmutableCollections$List12") : Con l Z (⟨"java/util/ImmutableCollections$AbstractImmutableCollection", "<init>", "()V"⟩ : MethodName) jdk_47_method_1_code 1 none ({ frames := 2, cells := 0, slots := 0, locals := 24 } : Room) #[(.ref a)] h n0 (fun v h' => v = none ∧ h' = h) := by
  refine Con.mk (Ls := #[.val (.ref a)]) (plainFor_of_name pn_12) (fun m => by first | (simp [entryFrame, mkF, argsToLocals, Value.category]; done) | rfl) (fun w C => ?_)
  replace C : Cx w l Z "java/util/ImmutableCollections$AbstractImmutableCollection" jdk_47_method_1_code 1 none "<init>" ({ frames := 2, cells := 0, slots := 0, locals := 24 } : Room) n0 := C
  obtain ⟨S_I32, E_I32, S_DEF, E_DEF, V_DEF, S_EL, E_EL, F_EL, V_EA, MIR⟩ := id H
  obtain ⟨kD, V_DEF⟩ := V_DEF
  obtain ⟨kEA, V_EA⟩ := V_EA
  refine g_aloadN C (pc' := 1) d30_0 rfl rfl rfl ?_
  refine g_special C (pc' := 4) (k' := 0) (n' := 0) (argsL := []) (rest := []) (wd hw 214 rfl) (wd hw 53 rfl) (wd hw 56 rfl) (wd hw 57 rfl) (by decide) rfl d30_1 pd_1 rfl rfl rfl (i12_2 l Z a0 hw n0 h O s_I32 s_DEF s_EL s_EA mr H a E0) (Nat.le_of_ble_eq_true rfl) (Nat.le_of_ble_eq_true rfl) (Nat.le_of_ble_eq_true rfl) (Nat.le_of_ble_eq_true rfl) rfl rfl rfl (fun v199 h198 q200 => ?_)
  obtain ⟨rfl, eh198⟩ := q200
  subst h198
  show G w _ h 0 0 4 #[.val (.ref a)] []
  exact g_return C d30_4 rfl (Nat.le_of_ble_eq_true rfl) (Nat.le_of_ble_eq_true rfl) (⟨rfl, rfl⟩)
theorem d29_0 : decode jdk_46_method_1_code 0 = .ok (.aload_n 0, 1) := by decide +kernel
theorem d29_1 : decode jdk_46_method_1_code 1 = .ok (.invokespecial 1, 3) := by decide +kernel
theorem d29_4 : decode jdk_46_method_1_code 4 = .ok (.return_, 1) := by decide +kernel
theorem pn_13 : plainName "java/util/ImmutableCollections$AbstractImmutableList" = true := by first | (simp [plainName, overriddenIn]; done) | decide +kernel
set_option maxRecDepth 65536 in
set_option maxHeartbeats 40000000 in
theorem i12_0 (l : Launch) (Z : State) (a0 : Array Value) (hw : ∀ d ∈ tables_1, d.before a0 Z = true) (n0 : Nat) (h : Heap) (O : Old Z n0 h) (s_I32 : Addr) (s_DEF : Addr) (s_EL : Addr) (s_EA : Addr) (mr : Addr) (H : En Z s_I32 s_DEF s_EL s_EA mr) (a : Addr) (E0 : Exa Z h a "java/util/ImmutableCollections$List12") : Con l Z (⟨"java/util/ImmutableCollections$AbstractImmutableList", "<init>", "()V"⟩ : MethodName) jdk_46_method_1_code 1 none ({ frames := 3, cells := 0, slots := 0, locals := 36 } : Room) #[(.ref a)] h n0 (fun v h' => v = none ∧ h' = h) := by
  refine Con.mk (Ls := #[.val (.ref a)]) (plainFor_of_name pn_13) (fun m => by first | (simp [entryFrame, mkF, argsToLocals, Value.category]; done) | rfl) (fun w C => ?_)
  replace C : Cx w l Z "java/util/ImmutableCollections$AbstractImmutableList" jdk_46_method_1_code 1 none "<init>" ({ frames := 3, cells := 0, slots := 0, locals := 36 } : Room) n0 := C
  obtain ⟨S_I32, E_I32, S_DEF, E_DEF, V_DEF, S_EL, E_EL, F_EL, V_EA, MIR⟩ := id H
  obtain ⟨kD, V_DEF⟩ := V_DEF
  obtain ⟨kEA, V_EA⟩ := V_EA
  refine g_aloadN C (pc' := 1) d29_0 rfl rfl rfl ?_
  refine g_special C (pc' := 4) (k' := 0) (n' := 0) (argsL := []) (rest := []) (wd hw 208 rfl) (wd hw 209 rfl) (wd hw 212 rfl) (wd hw 213 rfl) (by decide) rfl d29_1 pd_1 rfl rfl rfl (i12_1 l Z a0 hw n0 h O s_I32 s_DEF s_EL s_EA mr H a E0) (Nat.le_of_ble_eq_true rfl) (Nat.le_of_ble_eq_true rfl) (Nat.le_of_ble_eq_true rfl) (Nat.le_of_ble_eq_true rfl) rfl rfl rfl (fun v202 h201 q203 => ?_)
  obtain ⟨rfl, eh201⟩ := q203
  subst h201
  show G w _ h 0 0 4 #[.val (.ref a)] []
  exact g_return C d29_4 rfl (Nat.le_of_ble_eq_true rfl) (Nat.le_of_ble_eq_true rfl) (⟨rfl, rfl⟩)
theorem d28_0 : decode jdk_44_method_2_code 0 = .ok (.aload_n 0, 1) := by decide +kernel
theorem d28_1 : decode jdk_44_method_2_code 1 = .ok (.invokespecial 1, 3) := by decide +kernel
theorem d28_4 : decode jdk_44_method_2_code 4 = .ok (.aload_n 0, 1) := by decide +kernel
theorem d28_5 : decode jdk_44_method_2_code 5 = .ok (.aload_n 1, 1) := by decide +kernel
theorem d28_6 : decode jdk_44_method_2_code 6 = .ok (.invokestatic 7, 3) := by decide +kernel
theorem pd_23 : parseMethodDescriptor "(Ljava/lang/Object;)Ljava/lang/Object;" = some ⟨[(.object "java/lang/Object")], some (.object "java/lang/Object")⟩ := by decide +kernel
theorem d28_9 : decode jdk_44_method_2_code 9 = .ok (.putfield 13, 3) := by decide +kernel
theorem d28_12 : decode jdk_44_method_2_code 12 = .ok (.aload_n 0, 1) := by decide +kernel
theorem d28_13 : decode jdk_44_method_2_code 13 = .ok (.aload_n 2, 1) := by decide +kernel
theorem d28_14 : decode jdk_44_method_2_code 14 = .ok (.invokestatic 7, 3) := by decide +kernel
theorem d28_17 : decode jdk_44_method_2_code 17 = .ok (.putfield 24, 3) := by decide +kernel
theorem d28_20 : decode jdk_44_method_2_code 20 = .ok (.return_, 1) := by decide +kernel
theorem pn_14 : plainName "java/util/ImmutableCollections$List12" = true := by first | (simp [plainName, overriddenIn]; done) | decide +kernel
set_option maxRecDepth 65536 in
set_option maxHeartbeats 40000000 in
theorem l12_2 (l : Launch) (Z : State) (a0 : Array Value) (hw : ∀ d ∈ tables_1, d.before a0 Z = true) (n0 : Nat) (h : Heap) (O : Old Z n0 h) (s_I32 : Addr) (s_DEF : Addr) (s_EL : Addr) (s_EA : Addr) (mr : Addr) (H : En Z s_I32 s_DEF s_EL s_EA mr) (a x0 x1 : Addr) (ga : n0 ≤ a) (E0 : Exa Z h a "java/util/ImmutableCollections$List12") (F0 : Fld Z h a "java/util/ImmutableCollections$List12" "e0" "Ljava/lang/Object;" .null) (F1 : Fld Z h a "java/util/ImmutableCollections$List12" "e1" "Ljava/lang/Object;" .null) : Con l Z (⟨"java/util/ImmutableCollections$List12", "<init>", "(Ljava/lang/Object;Ljava/lang/Object;)V"⟩ : MethodName) jdk_44_method_2_code 3 none ({ frames := 4, cells := 0, slots := 0, locals := 48 } : Room) #[(.ref a), (.ref x0), (.ref x1)] h n0 (fun v h' => v = none ∧ Keep h h' [a]) := by
  refine Con.mk (Ls := #[.val (.ref a), .val (.ref x0), .val (.ref x1)]) (plainFor_of_name pn_14) (fun m => by first | (simp [entryFrame, mkF, argsToLocals, Value.category]; done) | rfl) (fun w C => ?_)
  replace C : Cx w l Z "java/util/ImmutableCollections$List12" jdk_44_method_2_code 3 none "<init>" ({ frames := 4, cells := 0, slots := 0, locals := 48 } : Room) n0 := C
  obtain ⟨S_I32, E_I32, S_DEF, E_DEF, V_DEF, S_EL, E_EL, F_EL, V_EA, MIR⟩ := id H
  obtain ⟨kD, V_DEF⟩ := V_DEF
  obtain ⟨kEA, V_EA⟩ := V_EA
  refine g_aloadN C (pc' := 1) d28_0 rfl rfl rfl ?_
  refine g_special C (pc' := 4) (k' := 0) (n' := 0) (argsL := []) (rest := []) (wd hw 202 rfl) (wd hw 203 rfl) (wd hw 206 rfl) (wd hw 207 rfl) (by decide) rfl d28_1 pd_1 rfl rfl rfl (i12_0 l Z a0 hw n0 h O s_I32 s_DEF s_EL s_EA mr H a E0) (Nat.le_of_ble_eq_true rfl) (Nat.le_of_ble_eq_true rfl) (Nat.le_of_ble_eq_true rfl) (Nat.le_of_ble_eq_true rfl) rfl rfl rfl (fun v205 h204 q206 => ?_)
  obtain ⟨rfl, eh204⟩ := q206
  subst h204
  show G w _ h 0 0 4 #[.val (.ref a), .val (.ref x0), .val (.ref x1)] []
  refine g_aloadN C (pc' := 5) d28_4 rfl rfl rfl ?_
  refine g_aloadN C (pc' := 6) d28_5 rfl rfl rfl ?_
  refine g_callS C (pc' := 9) (k' := 0) (n' := 0) (argsL := [(.ref x0)]) (rest := [(.ref a)]) (wd hw 216 rfl) (wd hw 217 rfl) (wd hw 33 rfl) (wd hw 218 rfl) (by decide) d28_6 pd_23 rfl rfl rfl (rnn l Z a0 hw n0 h O s_I32 s_DEF s_EL s_EA mr H x0) (Nat.le_of_ble_eq_true rfl) (Nat.le_of_ble_eq_true rfl) (Nat.le_of_ble_eq_true rfl) (Nat.le_of_ble_eq_true rfl) rfl rfl rfl (fun v208 h207 q209 => ?_)
  obtain ⟨rfl, eh207⟩ := q209
  subst h207
  show G w _ h 0 0 9 #[.val (.ref a), .val (.ref x0), .val (.ref x1)] [(.ref x0), (.ref a)]
  refine g_putF C (pc' := 12) (ty := (.object "java/lang/Object")) (wd hw 219 rfl) Via.refl d28_9 rfl F0 E0 (Or.inr ⟨(wd hw 220 rfl), rfl, rfl⟩) (wd hw 196 rfl) (by decide) rfl rfl ga rfl (fun h210 W211 => ?_)
  have f212 := O.wr W211 ga
  have f213 := (Keep.refl h [a]).wr W211 (Or.inl (List.mem_of_getElem? (i := 0) rfl))
  have f214 := E0.wr W211
  have f215 := F0.same W211
  have f216 := F1.other W211 (Or.inr (slot_ne (Or.inr (wd hw 222 rfl)) (Or.inr (wd hw 220 rfl)) (by decide) (t := (.object "java/lang/Object")) (t' := (.object "java/lang/Object")) (by decide) (by decide)))
  refine g_aloadN C (pc' := 13) d28_12 rfl rfl rfl ?_
  refine g_aloadN C (pc' := 14) d28_13 rfl rfl rfl ?_
  refine g_callS C (pc' := 17) (k' := 0) (n' := 0) (argsL := [(.ref x1)]) (rest := [(.ref a)]) (wd hw 216 rfl) (wd hw 217 rfl) (wd hw 33 rfl) (wd hw 218 rfl) (by decide) d28_14 pd_23 rfl rfl rfl (rnn l Z a0 hw n0 h210 f212 s_I32 s_DEF s_EL s_EA mr H x1) (Nat.le_of_ble_eq_true rfl) (Nat.le_of_ble_eq_true rfl) (Nat.le_of_ble_eq_true rfl) (Nat.le_of_ble_eq_true rfl) rfl rfl rfl (fun v218 h217 q219 => ?_)
  obtain ⟨rfl, eh217⟩ := q219
  subst h217
  show G w _ h210 0 0 17 #[.val (.ref a), .val (.ref x0), .val (.ref x1)] [(.ref x1), (.ref a)]
  refine g_putF C (pc' := 20) (ty := (.object "java/lang/Object")) (wd hw 221 rfl) Via.refl d28_17 rfl f216 f214 (Or.inr ⟨(wd hw 222 rfl), rfl, rfl⟩) (wd hw 196 rfl) (by decide) rfl rfl ga rfl (fun h220 W221 => ?_)
  have f222 := f212.wr W221 ga
  have f223 := f213.wr W221 (Or.inl (List.mem_of_getElem? (i := 0) rfl))
  have f224 := f214.wr W221
  have f225 := f215.other W221 (Or.inr (slot_ne (Or.inr (wd hw 220 rfl)) (Or.inr (wd hw 222 rfl)) (by decide) (t := (.object "java/lang/Object")) (t' := (.object "java/lang/Object")) (by decide) (by decide)))
  have f226 := f216.same W221
  exact g_return C d28_20 rfl (Nat.le_of_ble_eq_true rfl) (Nat.le_of_ble_eq_true rfl) (⟨rfl, f223⟩)
theorem d21_0 : decode jdk_56_method_3_code 0 = .ok (.aload_n 0, 1) := by decide +kernel
theorem d21_1 : decode jdk_56_method_3_code 1 = .ok (.instanceof 10, 3) := by decide +kernel
theorem d21_4 : decode jdk_56_method_3_code 4 = .ok (.ifCond .ne 22, 3) := by decide +kernel
theorem d21_7 : decode jdk_56_method_3_code 7 = .ok (.aload_n 0, 1) := by decide +kernel
theorem d21_8 : decode jdk_56_method_3_code 8 = .ok (.instanceof 12, 3) := by decide +kernel
theorem d21_11 : decode jdk_56_method_3_code 11 = .ok (.ifCond .eq 20, 3) := by decide +kernel
theorem d21_31 : decode jdk_56_method_3_code 31 = .ok (.aload_n 0, 1) := by decide +kernel
theorem d21_32 : decode jdk_56_method_3_code 32 = .ok (.invokeinterface 20 1, 5) := by decide +kernel
theorem pd_16 : parseMethodDescriptor "()Z" = some ⟨[], some .boolean⟩ := by decide +kernel
theorem d21_37 : decode jdk_56_method_3_code 37 = .ok (.ifCond .eq 7, 3) := by decide +kernel
theorem d21_40 : decode jdk_56_method_3_code 40 = .ok (.invokestatic 26, 3) := by decide +kernel
theorem pd_24 : parseMethodDescriptor "()Ljava/util/List;" = some ⟨[], some (.object "java/util/List")⟩ := by decide +kernel
theorem d21_43 : decode jdk_56_method_3_code 43 = .ok (.areturn, 1) := by decide +kernel
theorem pn_11 : plainName "java/util/ImmutableCollections" = true := by first | (simp [plainName, overriddenIn]; done) | decide +kernel
set_option maxRecDepth 65536 in
set_option maxHeartbeats 40000000 in
theorem lcp_0 (l : Launch) (Z : State) (a0 : Array Value) (hw : ∀ d ∈ tables_1, d.before a0 Z = true) (n0 : Nat) (h : Heap) (O : Old Z n0 h) (s_I32 : Addr) (s_DEF : Addr) (s_EL : Addr) (s_EA : Addr) (mr : Addr) (H : En Z s_I32 s_DEF s_EL s_EA mr) (a : Addr) (mc : Int32) (P : AL0 Z n0 h a s_DEF mc) : Con l Z (⟨"java/util/ImmutableCollections", "listCopy", "(Ljava/util/Collection;)Ljava/util/List;"⟩ : MethodName) jdk_56_method_3_code 2 (some (.object "java/util/List")) ({ frames := 1, cells := 0, slots := 0, locals := 12 } : Room) #[(.ref a)] h n0 (fun v h' => v = some (.ref s_EL) ∧ h' = h) := by
  refine Con.mk (Ls := #[.val (.ref a), .unset]) (plainFor_of_name pn_11) (fun m => by first | (simp [entryFrame, mkF, argsToLocals, Value.category]; done) | rfl) (fun w C => ?_)
  replace C : Cx w l Z "java/util/ImmutableCollections" jdk_56_method_3_code 2 (some (.object "java/util/List")) "listCopy" ({ frames := 1, cells := 0, slots := 0, locals := 12 } : Room) n0 := C
  obtain ⟨S_I32, E_I32, S_DEF, E_DEF, V_DEF, S_EL, E_EL, F_EL, V_EA, MIR⟩ := id H
  obtain ⟨kD, V_DEF⟩ := V_DEF
  obtain ⟨kEA, V_EA⟩ := V_EA
  have P0 := P
  obtain ⟨ga, E0, F1, F2, F3⟩ := P
  refine g_aloadN C (pc' := 1) d21_0 rfl rfl rfl ?_
  refine g_instN C (pc' := 4) (wd hw 151 rfl) d21_1 rfl E0 (ns_no (wd hw 139 rfl) (wd hw 196 rfl) (NS.step (wd hw 139 rfl) (NS.step (wd hw 140 rfl) (NS.step (wd hw 141 rfl) (ns_root (wd hw 142 rfl) (wd hw 196 rfl) (by decide)) (by decide)) (by decide)) (by decide)) (by decide)) rfl ?_
  refine g_ifN C (pc' := 7) d21_4 rfl (by decide) rfl ?_
  refine g_aloadN C (pc' := 8) d21_7 rfl rfl rfl ?_
  refine g_instN C (pc' := 11) (wd hw 152 rfl) d21_8 rfl E0 (NS.no (wd hw 139 rfl) (wd hw 230 rfl) (NS.step (wd hw 139 rfl) (NS.step (wd hw 140 rfl) (NS.step (wd hw 141 rfl) (NS.root (wd hw 142 rfl) (wd hw 230 rfl) (by decide)) (by decide)) (by decide)) (by decide)) (by decide)) rfl ?_
  refine g_ifY C (pc' := 31) d21_11 rfl (by decide) (by decide) rfl ?_
  refine g_aloadN C (pc' := 32) d21_31 rfl rfl rfl ?_
  refine g_interface C (pc' := 37) (k' := 0) (n' := 0) (argsL := []) (rest := []) (wd hw 153 rfl) (wd hw 154 rfl) (wd hw 155 rfl) rfl (wd hw 156 rfl) (wd hw 157 rfl) (wd hw 158 rfl) (wd hw 159 rfl) (wd hw 160 rfl) (wd hw 42 rfl) (wd hw 161 rfl) (by decide) d21_32 pd_16 rfl rfl rfl E0 (alEmp_0 l Z a0 hw n0 h O s_I32 s_DEF s_EL s_EA mr H a mc P0) (Nat.le_of_ble_eq_true rfl) (Nat.le_of_ble_eq_true rfl) (Nat.le_of_ble_eq_true rfl) (Nat.le_of_ble_eq_true rfl) rfl rfl rfl (fun v228 h227 q229 => ?_)
  obtain ⟨rfl, eh227⟩ := q229
  subst h227
  show G w _ h 0 0 37 #[.val (.ref a), .unset] [(.int (1 : Int32))]
  refine g_ifN C (pc' := 40) d21_37 rfl (by decide) rfl ?_
  refine g_callS C (pc' := 43) (k' := 0) (n' := 0) (argsL := []) (rest := []) (wd hw 226 rfl) (wd hw 227 rfl) (wd hw 145 rfl) (wd hw 228 rfl) (by decide) d21_40 pd_24 rfl rfl rfl (lof l Z a0 hw n0 h O s_I32 s_DEF s_EL s_EA mr H) (Nat.le_of_ble_eq_true rfl) (Nat.le_of_ble_eq_true rfl) (Nat.le_of_ble_eq_true rfl) (Nat.le_of_ble_eq_true rfl) rfl rfl rfl (fun v231 h230 q232 => ?_)
  obtain ⟨rfl, eh230⟩ := q232
  subst h230
  show G w _ h 0 0 43 #[.val (.ref a), .unset] [(.ref s_EL)]
  exact g_areturn C d21_43 rfl rfl rfl rfl (Nat.le_of_ble_eq_true rfl) (Nat.le_of_ble_eq_true rfl) (⟨rfl, rfl⟩)
theorem d20_0 : decode jdk_40_method_48_code 0 = .ok (.aload_n 0, 1) := by decide +kernel
theorem d20_1 : decode jdk_40_method_48_code 1 = .ok (.invokestatic 112, 3) := by decide +kernel
theorem pd_15 : parseMethodDescriptor "(Ljava/util/Collection;)Ljava/util/List;" = some ⟨[(.object "java/util/Collection")], some (.object "java/util/List")⟩ := by decide +kernel
theorem d20_4 : decode jdk_40_method_48_code 4 = .ok (.areturn, 1) := by decide +kernel
set_option maxRecDepth 65536 in
set_option maxHeartbeats 40000000 in
theorem cpo_0 (l : Launch) (Z : State) (a0 : Array Value) (hw : ∀ d ∈ tables_1, d.before a0 Z = true) (n0 : Nat) (h : Heap) (O : Old Z n0 h) (s_I32 : Addr) (s_DEF : Addr) (s_EL : Addr) (s_EA : Addr) (mr : Addr) (H : En Z s_I32 s_DEF s_EL s_EA mr) (a : Addr) (mc : Int32) (P : AL0 Z n0 h a s_DEF mc) : Con l Z (⟨"java/util/List", "copyOf", "(Ljava/util/Collection;)Ljava/util/List;"⟩ : MethodName) jdk_40_method_48_code 1 (some (.object "java/util/List")) ({ frames := 2, cells := 0, slots := 0, locals := 25 } : Room) #[(.ref a)] h n0 (fun v h' => v = some (.ref s_EL) ∧ h' = h) := by
  refine Con.mk (Ls := #[.val (.ref a)]) (plainFor_of_name pn_15) (fun m => by first | (simp [entryFrame, mkF, argsToLocals, Value.category]; done) | rfl) (fun w C => ?_)
  replace C : Cx w l Z "java/util/List" jdk_40_method_48_code 1 (some (.object "java/util/List")) "copyOf" ({ frames := 2, cells := 0, slots := 0, locals := 25 } : Room) n0 := C
  obtain ⟨S_I32, E_I32, S_DEF, E_DEF, V_DEF, S_EL, E_EL, F_EL, V_EA, MIR⟩ := id H
  obtain ⟨kD, V_DEF⟩ := V_DEF
  obtain ⟨kEA, V_EA⟩ := V_EA
  refine g_aloadN C (pc' := 1) d20_0 rfl rfl rfl ?_
  refine g_callS C (pc' := 4) (k' := 0) (n' := 0) (argsL := [(.ref a)]) (rest := []) (wd hw 147 rfl) (wd hw 148 rfl) (wd hw 149 rfl) (wd hw 150 rfl) (by decide) d20_1 pd_15 rfl rfl rfl (lcp_0 l Z a0 hw n0 h O s_I32 s_DEF s_EL s_EA mr H a mc  P) (Nat.le_of_ble_eq_true rfl) (Nat.le_of_ble_eq_true rfl) (Nat.le_of_ble_eq_true rfl) (Nat.le_of_ble_eq_true rfl) rfl rfl rfl (fun v234 h233 q235 => ?_)
  obtain ⟨rfl, eh233⟩ := q235
  subst h233
  show G w _ h 0 0 4 #[.val (.ref a)] [(.ref s_EL)]
  exact g_areturn C d20_4 rfl rfl rfl rfl (Nat.le_of_ble_eq_true rfl) (Nat.le_of_ble_eq_true rfl) (⟨rfl, rfl⟩)
theorem d26_0 : decode jdk_29_method_69_code 0 = .ok (.iload_n 0, 1) := by decide +kernel
theorem d26_1 : decode jdk_29_method_69_code 1 = .ok (.iload_n 1, 1) := by decide +kernel
theorem d26_2 : decode jdk_29_method_69_code 2 = .ok (.if_icmp .gt 7, 3) := by decide +kernel
theorem d26_9 : decode jdk_29_method_69_code 9 = .ok (.iload_n 1, 1) := by decide +kernel
theorem d26_10 : decode jdk_29_method_69_code 10 = .ok (.ireturn, 1) := by decide +kernel
set_option maxRecDepth 65536 in
set_option maxHeartbeats 40000000 in
theorem min_10_2 (l : Launch) (Z : State) (a0 : Array Value) (hw : ∀ d ∈ tables_1, d.before a0 Z = true) (n0 : Nat) (h : Heap) (O : Old Z n0 h) (s_I32 : Addr) (s_DEF : Addr) (s_EL : Addr) (s_EA : Addr) (mr : Addr) (H : En Z s_I32 s_DEF s_EL s_EA mr) : Con l Z (⟨"java/lang/Math", "min", "(II)I"⟩ : MethodName) jdk_29_method_69_code 2 (some .int) ({ frames := 0, cells := 0, slots := 0, locals := 0 } : Room) #[(.int (10 : Int32)), (.int (2 : Int32))] h n0 (fun v h' => v = some (.int (2 : Int32)) ∧ h' = h) := by
  refine Con.mk (Ls := #[.val (.int (10 : Int32)), .val (.int (2 : Int32))]) (Jvm.Free.JP.mathPlain rfl (by decide +kernel)) (fun m => by first | (simp [entryFrame, mkF, argsToLocals, Value.category]; done) | rfl) (fun w C => ?_)
  replace C : Cx w l Z "java/lang/Math" jdk_29_method_69_code 2 (some .int) "min" ({ frames := 0, cells := 0, slots := 0, locals := 0 } : Room) n0 := C
  obtain ⟨S_I32, E_I32, S_DEF, E_DEF, V_DEF, S_EL, E_EL, F_EL, V_EA, MIR⟩ := id H
  refine g_iloadN C (pc' := 1) d26_0 rfl rfl ?_
  refine g_iloadN C (pc' := 2) d26_1 rfl rfl ?_
  refine g_icY C (pc' := 9) d26_2 rfl (by decide) (by decide) rfl ?_
  refine g_iloadN C (pc' := 10) d26_9 rfl rfl ?_
  exact g_ireturn C d26_10 rfl (Nat.le_of_ble_eq_true rfl) (Nat.le_of_ble_eq_true rfl) (⟨rfl, rfl⟩)
theorem d25_0 : decode jdk_65_method_120_code 0 = .ok (.aload_n 2, 1) := by decide +kernel
theorem d25_1 : decode jdk_65_method_120_code 1 = .ok (.ldc 110, 2) := by decide +kernel
theorem d25_3 : decode jdk_65_method_120_code 3 = .ok (.if_acmp .ne 10, 3) := by decide +kernel
theorem d25_6 : decode jdk_65_method_120_code 6 = .ok (.iload_n 1, 1) := by decide +kernel
theorem d25_7 : decode jdk_65_method_120_code 7 = .ok (.anewarray 2, 3) := by decide +kernel
theorem d25_10 : decode jdk_65_method_120_code 10 = .ok (.goto 14, 3) := by decide +kernel
theorem d25_24 : decode jdk_65_method_120_code 24 = .ok (.astore_n 3, 1) := by decide +kernel
theorem d25_25 : decode jdk_65_method_120_code 25 = .ok (.aload_n 0, 1) := by decide +kernel
theorem d25_26 : decode jdk_65_method_120_code 26 = .ok (.iconst 0, 1) := by decide +kernel
theorem d25_27 : decode jdk_65_method_120_code 27 = .ok (.aload_n 3, 1) := by decide +kernel
theorem d25_28 : decode jdk_65_method_120_code 28 = .ok (.iconst 0, 1) := by decide +kernel
theorem d25_29 : decode jdk_65_method_120_code 29 = .ok (.aload_n 0, 1) := by decide +kernel
theorem d25_30 : decode jdk_65_method_120_code 30 = .ok (.arraylength, 1) := by decide +kernel
theorem d25_31 : decode jdk_65_method_120_code 31 = .ok (.iload_n 1, 1) := by decide +kernel
theorem d25_32 : decode jdk_65_method_120_code 32 = .ok (.invokestatic 304, 3) := by decide +kernel
theorem d25_35 : decode jdk_65_method_120_code 35 = .ok (.invokestatic 150, 3) := by decide +kernel
theorem d25_38 : decode jdk_65_method_120_code 38 = .ok (.aload_n 3, 1) := by decide +kernel
theorem d25_39 : decode jdk_65_method_120_code 39 = .ok (.areturn, 1) := by decide +kernel
theorem pn_10 : plainName "java/util/Arrays" = true := by first | (simp [plainName, overriddenIn]; done) | decide +kernel
set_option maxRecDepth 65536 in
set_option maxHeartbeats 40000000 in
theorem cp3_2 (l : Launch) (Z : State) (a0 : Array Value) (hw : ∀ d ∈ tables_1, d.before a0 Z = true) (n0 : Nat) (h : Heap) (O : Old Z n0 h) (s_I32 : Addr) (s_DEF : Addr) (s_EL : Addr) (s_EA : Addr) (mr : Addr) (H : En Z s_I32 s_DEF s_EL s_EA mr) (ed : Addr) (kE : ClassId) (x0 x1 : Addr) (Ex0 : Exa Z h x0 "com/example/strictwire/strictwire/Field") (Ex1 : Exa Z h x1 "com/example/strictwire/strictwire/Field") (A1 : Arv Z h ed kE (.object "java/lang/Object") (10 : Int32) [(.ref x0), (.ref x1), .null, .null, .null, .null, .null, .null, .null, .null] .null) : Con l Z (⟨"java/util/Arrays", "copyOf", "([Ljava/lang/Object;ILjava/lang/Class;)[Ljava/lang/Object;"⟩ : MethodName) jdk_65_method_120_code 4 (some (.array (.object "java/lang/Object"))) ({ frames := 1, cells := 1, slots := 2, locals := 18 } : Room) #[(.ref ed), (.int (2 : Int32)), (.ref mr)] h n0 (fun v h' => ∃ g kG, v = some (.ref g) ∧ h.size ≤ g ∧ Keep h h' [] ∧ Exa Z h' g "[Ljava/lang/Object;" ∧ Arv Z h' g kG (.object "java/lang/Object") (2 : Int32) [(.ref x0), (.ref x1)] .null) := by
  refine Con.mk (Ls := #[.val (.ref ed), .val (.int (2 : Int32)), .val (.ref mr), .unset]) (plainFor_of_name pn_10) (fun m => by first | (simp [entryFrame, mkF, argsToLocals, Value.category]; done) | rfl) (fun w C => ?_)
  replace C : Cx w l Z "java/util/Arrays" jdk_65_method_120_code 4 (some (.array (.object "java/lang/Object"))) "copyOf" ({ frames := 1, cells := 1, slots := 2, locals := 18 } : Room) n0 := C
  obtain ⟨S_I32, E_I32, S_DEF, E_DEF, V_DEF, S_EL, E_EL, F_EL, V_EA, MIR⟩ := id H
  obtain ⟨kD, V_DEF⟩ := V_DEF
  obtain ⟨kEA, V_EA⟩ := V_EA
  refine g_aloadN C (pc' := 1) d25_0 rfl rfl rfl ?_
  refine g_ldcMirror C (pc' := 3) (wd hw 183 rfl) MIR d25_1 rfl ?_
  refine g_acmp C (pc' := 6) (same := true) d25_3 rfl rfl rfl (decide_eq_true rfl) (by decide) (by decide) ?_
  refine g_iloadN C (pc' := 7) d25_6 rfl rfl ?_
  refine g_newRE C (pc' := 10) (k' := 1) (n' := 2) (cap := 2) (ad := "[Ljava/lang/Object;") (wd hw 184 rfl) (wd hw 122 rfl) (by decide) d25_7 rfl (by decide) (by decide) (by decide) (by decide) (by decide) rfl rfl rfl (fun h236 b237 kA238 ex239 E240 A241 B243 Ov242 => ?_)
  have ne_ed_b237 : ed ≠ b237 := Nat.ne_of_lt (by rw [ex239]; exact A1.lt)
  have ne_x0_b237 : x0 ≠ b237 := Nat.ne_of_lt (by rw [ex239]; exact Ex0.lt)
  have ne_x1_b237 : x1 ≠ b237 := Nat.ne_of_lt (by rw [ex239]; exact Ex1.lt)
  have ge_b237 : n0 ≤ b237 := by rw [ex239]; exact O.1 ▸ O.2.1
  have sz_b237 : h.size ≤ b237 := by rw [ex239]; exact (Keep.refl h []).1
  have f244 := O.ext E240
  have f245 := (Keep.refl h []).ext E240
  have f246 := A1.ext E240
  have f247 := Ex0.ext E240
  have f248 := Ex1.ext E240
  have A249 : Arv Z h236 b237 kA238 (.object "java/lang/Object") (2 : Int32) [.null, .null] .null := A241.pad (pad_rep [] .null 2)
  refine g_goto C (pc' := 24) d25_10 (by decide) rfl ?_
  refine g_astoreN C (pc' := 25) (Ls' := #[.val (.ref ed), .val (.int (2 : Int32)), .val (.ref mr), .val (.ref b237)]) d25_24 rfl rfl rfl rfl ?_
  refine g_aloadN C (pc' := 26) d25_25 rfl rfl rfl ?_
  refine g_iconst C (pc' := 27) (v := (0 : Int32)) d25_26 (by decide) rfl ?_
  refine g_aloadN C (pc' := 28) d25_27 rfl rfl rfl ?_
  refine g_iconst C (pc' := 29) (v := (0 : Int32)) d25_28 (by decide) rfl ?_
  refine g_aloadN C (pc' := 30) d25_29 rfl rfl rfl ?_
  refine g_alen C (pc' := 31) d25_30 rfl f246 rfl ?_
  refine g_iloadN C (pc' := 32) d25_31 rfl rfl ?_
  refine g_callS C (pc' := 35) (k' := 1) (n' := 2) (argsL := [(.int (10 : Int32)), (.int (2 : Int32))]) (rest := [(.int (0 : Int32)), (.ref b237), (.int (0 : Int32)), (.ref ed)]) (wd hw 185 rfl) (wd hw 186 rfl) (wd hw 119 rfl) (wd hw 187 rfl) (by decide) d25_32 pd_11 rfl rfl rfl (min_10_2 l Z a0 hw n0 h236 f244 s_I32 s_DEF s_EL s_EA mr H) (Nat.le_of_ble_eq_true rfl) (Nat.le_of_ble_eq_true rfl) (Nat.le_of_ble_eq_true rfl) (Nat.le_of_ble_eq_true rfl) rfl rfl rfl (fun v251 h250 q252 => ?_)
  obtain ⟨rfl, eh250⟩ := q252
  subst h250
  show G w _ h236 1 2 35 #[.val (.ref ed), .val (.int (2 : Int32)), .val (.ref mr), .val (.ref b237)] [(.int (2 : Int32)), (.int (0 : Int32)), (.ref b237), (.int (0 : Int32)), (.ref ed)]
  refine g_cpA C (pc' := 38) (us := [(.ref x0), (.ref x1)]) (wd hw 188 rfl) (wd hw 191 rfl) (wd hw 189 rfl) (wd hw 190 rfl) d25_35 rfl rfl f246 A249 (Or.inr ⟨rfl, rfl, ⟨stoR A249 Ov242 (Ins.of_exa f247 (wd hw 123 rfl)), ⟨stoR A249 Ov242 (Ins.of_exa f248 (wd hw 123 rfl)), trivial⟩⟩⟩) (by decide) (by decide) (by decide) (Nat.le_of_ble_eq_true rfl) (Nat.le_of_ble_eq_true rfl) rfl (Nat.le_of_ble_eq_true rfl) ge_b237 (Nat.le_of_ble_eq_true rfl) (Nat.le_of_ble_eq_true rfl) rfl (fun h253 K254 A255 => ?_)
  have f256 := f244.keep K254 (allS ge_b237 all0)
  have f257 := f245.trans K254 (allS (Or.inr sz_b237) all0)
  have f258 := f246.keep K254 (ninS ne_ed_b237 nin0)
  have f259 := f247.keep K254
  have f260 := f248.keep K254
  have f261 := B243.keep K254
  have A262 : Arv Z h253 b237 kA238 (.object "java/lang/Object") (2 : Int32) [(.ref x0), (.ref x1)] .null := A255
  refine g_aloadN C (pc' := 39) d25_38 rfl rfl rfl ?_
  exact g_areturn C d25_39 rfl rfl rfl rfl (Nat.le_of_ble_eq_true rfl) (Nat.le_of_ble_eq_true rfl) (⟨b237, kA238, rfl, sz_b237, f257, f261, A262⟩)
theorem d24_0 : decode jdk_65_method_119_code 0 = .ok (.aload_n 0, 1) := by decide +kernel
theorem d24_1 : decode jdk_65_method_119_code 1 = .ok (.iload_n 1, 1) := by decide +kernel
theorem d24_2 : decode jdk_65_method_119_code 2 = .ok (.aload_n 0, 1) := by decide +kernel
theorem d24_3 : decode jdk_65_method_119_code 3 = .ok (.invokevirtual 86, 3) := by decide +kernel
theorem d24_6 : decode jdk_65_method_119_code 6 = .ok (.invokestatic 300, 3) := by decide +kernel
theorem pd_19 : parseMethodDescriptor "([Ljava/lang/Object;ILjava/lang/Class;)[Ljava/lang/Object;" = some ⟨[(.array (.object "java/lang/Object")), .int, (.object "java/lang/Class")], some (.array (.object "java/lang/Object"))⟩ := by decide +kernel
theorem d24_9 : decode jdk_65_method_119_code 9 = .ok (.areturn, 1) := by decide +kernel
set_option maxRecDepth 65536 in
set_option maxHeartbeats 40000000 in
theorem cp2_2 (l : Launch) (Z : State) (a0 : Array Value) (hw : ∀ d ∈ tables_1, d.before a0 Z = true) (n0 : Nat) (h : Heap) (O : Old Z n0 h) (s_I32 : Addr) (s_DEF : Addr) (s_EL : Addr) (s_EA : Addr) (mr : Addr) (H : En Z s_I32 s_DEF s_EL s_EA mr) (ed : Addr) (kE : ClassId) (x0 x1 : Addr) (Ex0 : Exa Z h x0 "com/example/strictwire/strictwire/Field") (Ex1 : Exa Z h x1 "com/example/strictwire/strictwire/Field") (Ee : Exa Z h ed "[Ljava/lang/Object;") (A1 : Arv Z h ed kE (.object "java/lang/Object") (10 : Int32) [(.ref x0), (.ref x1), .null, .null, .null, .null, .null, .null, .null, .null] .null) : Con l Z (⟨"java/util/Arrays", "copyOf", "([Ljava/lang/Object;I)[Ljava/lang/Object;"⟩ : MethodName) jdk_65_method_119_code 2 (some (.array (.object "java/lang/Object"))) ({ frames := 2, cells := 1, slots := 2, locals := 33 } : Room) #[(.ref ed), (.int (2 : Int32))] h n0 (fun v h' => ∃ g kG, v = some (.ref g) ∧ h.size ≤ g ∧ Keep h h' [] ∧ Exa Z h' g "[Ljava/lang/Object;" ∧ Arv Z h' g kG (.object "java/lang/Object") (2 : Int32) [(.ref x0), (.ref x1)] .null) := by
  refine Con.mk (Ls := #[.val (.ref ed), .val (.int (2 : Int32))]) (plainFor_of_name pn_10) (fun m => by first | (simp [entryFrame, mkF, argsToLocals, Value.category]; done) | rfl) (fun w C => ?_)
  replace C : Cx w l Z "java/util/Arrays" jdk_65_method_119_code 2 (some (.array (.object "java/lang/Object"))) "copyOf" ({ frames := 2, cells := 1, slots := 2, locals := 33 } : Room) n0 := C
  obtain ⟨S_I32, E_I32, S_DEF, E_DEF, V_DEF, S_EL, E_EL, F_EL, V_EA, MIR⟩ := id H
  obtain ⟨kD, V_DEF⟩ := V_DEF
  obtain ⟨kEA, V_EA⟩ := V_EA
  refine g_aloadN C (pc' := 1) d24_0 rfl rfl rfl ?_
  refine g_iloadN C (pc' := 2) d24_1 rfl rfl ?_
  refine g_aloadN C (pc' := 3) d24_2 rfl rfl rfl ?_
  refine g_getClass C (pc' := 6) (wd hw 174 rfl) (wd hw 175 rfl) (wd hw 142 rfl) (wd hw 177 rfl) (wd hw 176 rfl) (wd hw 178 rfl) d24_3 rfl rfl Ee MIR (Nat.le_of_ble_eq_true rfl) (Nat.le_of_ble_eq_true rfl) rfl ?_
  refine g_callS C (pc' := 9) (k' := 1) (n' := 2) (argsL := [(.ref ed), (.int (2 : Int32)), (.ref mr)]) (rest := []) (wd hw 180 rfl) (wd hw 181 rfl) (wd hw 172 rfl) (wd hw 182 rfl) (by decide) d24_6 pd_19 rfl rfl rfl (cp3_2 l Z a0 hw n0 h O s_I32 s_DEF s_EL s_EA mr H ed kE x0 x1 Ex0 Ex1 A1) (Nat.le_of_ble_eq_true rfl) (Nat.le_of_ble_eq_true rfl) (Nat.le_of_ble_eq_true rfl) (Nat.le_of_ble_eq_true rfl) rfl rfl rfl (fun v264 h263 q265 => ?_)
  obtain ⟨g, kG, rfl, q1, q2, q3, q4⟩ := q265
  show G w _ h263 1 2 9 #[.val (.ref ed), .val (.int (2 : Int32))] [(.ref g)]
  exact g_areturn C d24_9 rfl rfl rfl rfl (Nat.le_of_ble_eq_true rfl) (Nat.le_of_ble_eq_true rfl) (⟨g, kG, rfl, q1, q2, q3, q4⟩)
theorem d23_0 : decode jdk_38_method_16_code 0 = .ok (.aload_n 0, 1) := by decide +kernel
theorem d23_1 : decode jdk_38_method_16_code 1 = .ok (.getfield 9, 3) := by decide +kernel
theorem d23_4 : decode jdk_38_method_16_code 4 = .ok (.aload_n 0, 1) := by decide +kernel
theorem d23_5 : decode jdk_38_method_16_code 5 = .ok (.getfield 48, 3) := by decide +kernel
theorem d23_8 : decode jdk_38_method_16_code 8 = .ok (.invokestatic 66, 3) := by decide +kernel
theorem pd_17 : parseMethodDescriptor "([Ljava/lang/Object;I)[Ljava/lang/Object;" = some ⟨[(.array (.object "java/lang/Object")), .int], some (.array (.object "java/lang/Object"))⟩ := by decide +kernel
theorem d23_11 : decode jdk_38_method_16_code 11 = .ok (.areturn, 1) := by decide +kernel
set_option maxRecDepth 65536 in
set_option maxHeartbeats 40000000 in
theorem toA_2 (l : Launch) (Z : State) (a0 : Array Value) (hw : ∀ d ∈ tables_1, d.before a0 Z = true) (n0 : Nat) (h : Heap) (O : Old Z n0 h) (s_I32 : Addr) (s_DEF : Addr) (s_EL : Addr) (s_EA : Addr) (mr : Addr) (H : En Z s_I32 s_DEF s_EL s_EA mr) (a ed : Addr) (kE : ClassId) (mc : Int32) (x0 x1 : Addr) (Ex0 : Exa Z h x0 "com/example/strictwire/strictwire/Field") (Ex1 : Exa Z h x1 "com/example/strictwire/strictwire/Field") (P : AL1 Z n0 h a ed kE mc (2 : Int32) [(.ref x0), (.ref x1), .null, .null, .null, .null, .null, .null, .null, .null]) : Con l Z (⟨"java/util/ArrayList", "toArray", "()[Ljava/lang/Object;"⟩ : MethodName) jdk_38_method_16_code 1 (some (.array (.object "java/lang/Object"))) ({ frames := 3, cells := 1, slots := 2, locals := 46 } : Room) #[(.ref a)] h n0 (fun v h' => ∃ g kG, v = some (.ref g) ∧ h.size ≤ g ∧ Keep h h' [] ∧ Exa Z h' g "[Ljava/lang/Object;" ∧ Arv Z h' g kG (.object "java/lang/Object") (2 : Int32) [(.ref x0), (.ref x1)] .null) := by
  refine Con.mk (Ls := #[.val (.ref a)]) (plainFor_of_name pn_9) (fun m => by first | (simp [entryFrame, mkF, argsToLocals, Value.category]; done) | rfl) (fun w C => ?_)
  replace C : Cx w l Z "java/util/ArrayList" jdk_38_method_16_code 1 (some (.array (.object "java/lang/Object"))) "toArray" ({ frames := 3, cells := 1, slots := 2, locals := 46 } : Room) n0 := C
  obtain ⟨S_I32, E_I32, S_DEF, E_DEF, V_DEF, S_EL, E_EL, F_EL, V_EA, MIR⟩ := id H
  obtain ⟨kD, V_DEF⟩ := V_DEF
  obtain ⟨kEA, V_EA⟩ := V_EA
  obtain ⟨ga, ge, nae, Ov, E0, Ee, F1, F2, F3, A1⟩ := P
  refine g_aloadN C (pc' := 1) d23_0 rfl rfl rfl ?_
  refine g_getF C (pc' := 4) (wd hw 62 rfl) Via.refl d23_1 rfl F2 rfl ?_
  refine g_aloadN C (pc' := 5) d23_4 rfl rfl rfl ?_
  refine g_getF C (pc' := 8) (wd hw 100 rfl) Via.refl d23_5 rfl F3 rfl ?_
  refine g_callS C (pc' := 11) (k' := 1) (n' := 2) (argsL := [(.ref ed), (.int (2 : Int32))]) (rest := []) (wd hw 170 rfl) (wd hw 171 rfl) (wd hw 172 rfl) (wd hw 173 rfl) (by decide) d23_8 pd_17 rfl rfl rfl (cp2_2 l Z a0 hw n0 h O s_I32 s_DEF s_EL s_EA mr H ed kE x0 x1 Ex0 Ex1 Ee A1) (Nat.le_of_ble_eq_true rfl) (Nat.le_of_ble_eq_true rfl) (Nat.le_of_ble_eq_true rfl) (Nat.le_of_ble_eq_true rfl) rfl rfl rfl (fun v267 h266 q268 => ?_)
  obtain ⟨g, kG, rfl, q1, q2, q3, q4⟩ := q268
  show G w _ h266 1 2 11 #[.val (.ref a)] [(.ref g)]
  exact g_areturn C d23_11 rfl rfl rfl rfl (Nat.le_of_ble_eq_true rfl) (Nat.le_of_ble_eq_true rfl) (⟨g, kG, rfl, q1, q2, q3, q4⟩)
theorem d27_0 : decode jdk_40_method_47_code 0 = .ok (.aload_n 0, 1) := by decide +kernel
theorem d27_1 : decode jdk_40_method_47_code 1 = .ok (.arraylength, 1) := by decide +kernel
theorem d27_2 : decode jdk_40_method_47_code 2 = .ok (.tableswitch 57 0 2 #[26, 32, 43], 26) := by decide +kernel
theorem d27_45 : decode jdk_40_method_47_code 45 = .ok (.new 96, 3) := by decide +kernel
theorem d27_48 : decode jdk_40_method_47_code 48 = .ok (.dup, 1) := by decide +kernel
theorem d27_49 : decode jdk_40_method_47_code 49 = .ok (.aload_n 0, 1) := by decide +kernel
theorem d27_50 : decode jdk_40_method_47_code 50 = .ok (.iconst 0, 1) := by decide +kernel
theorem d27_51 : decode jdk_40_method_47_code 51 = .ok (.aaload, 1) := by decide +kernel
theorem d27_52 : decode jdk_40_method_47_code 52 = .ok (.aload_n 0, 1) := by decide +kernel
theorem d27_53 : decode jdk_40_method_47_code 53 = .ok (.iconst 1, 1) := by decide +kernel
theorem d27_54 : decode jdk_40_method_47_code 54 = .ok (.aaload, 1) := by decide +kernel
theorem d27_55 : decode jdk_40_method_47_code 55 = .ok (.invokespecial 100, 3) := by decide +kernel
theorem pd_22 : parseMethodDescriptor "(Ljava/lang/Object;Ljava/lang/Object;)V" = some ⟨[(.object "java/lang/Object"), (.object "java/lang/Object")], none⟩ := by decide +kernel
theorem d27_58 : decode jdk_40_method_47_code 58 = .ok (.areturn, 1) := by decide +kernel
set_option maxRecDepth 65536 in
set_option maxHeartbeats 40000000 in
theorem lofA_2 (l : Launch) (Z : State) (a0 : Array Value) (hw : ∀ d ∈ tables_1, d.before a0 Z = true) (n0 : Nat) (h : Heap) (O : Old Z n0 h) (s_I32 : Addr) (s_DEF : Addr) (s_EL : Addr) (s_EA : Addr) (mr : Addr) (H : En Z s_I32 s_DEF s_EL s_EA mr) (g : Addr) (kG : ClassId) (x0 x1 : Addr) (Ex0 : Exa Z h x0 "com/example/strictwire/strictwire/Field") (Ex1 : Exa Z h x1 "com/example/strictwire/strictwire/Field") (A1 : Arv Z h g kG (.object "java/lang/Object") (2 : Int32) [(.ref x0), (.ref x1)] .null) : Con l Z (⟨"java/util/List", "of", "([Ljava/lang/Object;)Ljava/util/List;"⟩ : MethodName) jdk_40_method_47_code 2 (some (.object "java/util/List")) ({ frames := 5, cells := 1, slots := 2, locals := 63 } : Room) #[(.ref g)] h n0 (fun v h' => ∃ L, v = some (.ref L) ∧ h.size ≤ L ∧ Keep h h' [] ∧ Exa Z h' L "java/util/ImmutableCollections$List12") := by
  refine Con.mk (Ls := #[.val (.ref g), .unset]) (plainFor_of_name pn_15) (fun m => by first | (simp [entryFrame, mkF, argsToLocals, Value.category]; done) | rfl) (fun w C => ?_)
  replace C : Cx w l Z "java/util/List" jdk_40_method_47_code 2 (some (.object "java/util/List")) "of" ({ frames := 5, cells := 1, slots := 2, locals := 63 } : Room) n0 := C
  obtain ⟨S_I32, E_I32, S_DEF, E_DEF, V_DEF, S_EL, E_EL, F_EL, V_EA, MIR⟩ := id H
  obtain ⟨kD, V_DEF⟩ := V_DEF
  obtain ⟨kEA, V_EA⟩ := V_EA
  refine g_aloadN C (pc' := 1) d27_0 rfl rfl rfl ?_
  refine g_alen C (pc' := 2) d27_1 rfl A1 rfl ?_
  refine g_tsw C (pc' := 45) d27_2 rfl (by decide) rfl (by decide) rfl ?_
  refine g_new C (pc' := 48) (k' := 1) (n' := 2) (wd hw 195 rfl) (wd hw 196 rfl) (wd hw 197 rfl) d27_45 (by decide) (by decide) rfl rfl rfl (fun h269 b270 ex271 E272 A273 D274 => ?_)
  have ne_g_b270 : g ≠ b270 := Nat.ne_of_lt (by rw [ex271]; exact A1.lt)
  have ne_x0_b270 : x0 ≠ b270 := Nat.ne_of_lt (by rw [ex271]; exact Ex0.lt)
  have ne_x1_b270 : x1 ≠ b270 := Nat.ne_of_lt (by rw [ex271]; exact Ex1.lt)
  have ge_b270 : n0 ≤ b270 := by rw [ex271]; exact O.1 ▸ O.2.1
  have sz_b270 : h.size ≤ b270 := by rw [ex271]; exact (Keep.refl h []).1
  have f275 := O.ext E272
  have f276 := (Keep.refl h []).ext E272
  have f277 := A1.ext E272
  have f278 := Ex0.ext E272
  have f279 := Ex1.ext E272
  have F_e0_b270 : Fld Z h269 b270 "java/util/ImmutableCollections$List12" "e0" "Ljava/lang/Object;" .null := D274 (Or.inr (wd hw 220 rfl)) (ty := (.object "java/lang/Object")) (by decide)
  have F_e1_b270 : Fld Z h269 b270 "java/util/ImmutableCollections$List12" "e1" "Ljava/lang/Object;" .null := D274 (Or.inr (wd hw 222 rfl)) (ty := (.object "java/lang/Object")) (by decide)
  refine g_dup C (pc' := 49) d27_48 rfl rfl rfl ?_
  refine g_aloadN C (pc' := 50) d27_49 rfl rfl rfl ?_
  refine g_iconst C (pc' := 51) (v := (0 : Int32)) d27_50 (by decide) rfl ?_
  refine g_aaload C (pc' := 52) (x := (.ref x0)) d27_51 rfl f277 rfl (by decide) (by decide) rfl rfl ?_
  refine g_aloadN C (pc' := 53) d27_52 rfl rfl rfl ?_
  refine g_iconst C (pc' := 54) (v := (1 : Int32)) d27_53 (by decide) rfl ?_
  refine g_aaload C (pc' := 55) (x := (.ref x1)) d27_54 rfl f277 rfl (by decide) (by decide) rfl rfl ?_
  refine g_special C (pc' := 58) (k' := 1) (n' := 2) (argsL := [(.ref x0), (.ref x1)]) (rest := [(.ref b270)]) (wd hw 198 rfl) (wd hw 199 rfl) (wd hw 197 rfl) (wd hw 201 rfl) (by decide) rfl d27_55 pd_22 rfl rfl rfl (l12_2 l Z a0 hw n0 h269 f275 s_I32 s_DEF s_EL s_EA mr H b270 x0 x1 ge_b270 A273 F_e0_b270 F_e1_b270) (Nat.le_of_ble_eq_true rfl) (Nat.le_of_ble_eq_true rfl) (Nat.le_of_ble_eq_true rfl) (Nat.le_of_ble_eq_true rfl) rfl rfl rfl (fun v281 h280 q282 => ?_)
  obtain ⟨rfl, k1⟩ := q282
  have f283 := f275.keep k1 (allS ge_b270 all0)
  have f284 := f276.trans k1 (allS (Or.inr sz_b270) all0)
  have f285 := f277.keep k1 (ninS ne_g_b270 nin0)
  have f286 := f278.keep k1
  have f287 := f279.keep k1
  have f288 := A273.keep k1
  show G w _ h280 1 2 58 #[.val (.ref g), .unset] [(.ref b270)]
  exact g_areturn C d27_58 rfl rfl rfl rfl (Nat.le_of_ble_eq_true rfl) (Nat.le_of_ble_eq_true rfl) (⟨b270, rfl, sz_b270, f284, f288⟩)
theorem d21_44 : decode jdk_56_method_3_code 44 = .ok (.aload_n 0, 1) := by decide +kernel
theorem d21_45 : decode jdk_56_method_3_code 45 = .ok (.invokeinterface 30 1, 5) := by decide +kernel
theorem d21_50 : decode jdk_56_method_3_code 50 = .ok (.invokestatic 34, 3) := by decide +kernel
theorem pd_21 : parseMethodDescriptor "([Ljava/lang/Object;)Ljava/util/List;" = some ⟨[(.array (.object "java/lang/Object"))], some (.object "java/util/List")⟩ := by decide +kernel
theorem d21_53 : decode jdk_56_method_3_code 53 = .ok (.areturn, 1) := by decide +kernel
set_option maxRecDepth 65536 in
set_option maxHeartbeats 40000000 in
theorem lcp_2 (l : Launch) (Z : State) (a0 : Array Value) (hw : ∀ d ∈ tables_1, d.before a0 Z = true) (n0 : Nat) (h : Heap) (O : Old Z n0 h) (s_I32 : Addr) (s_DEF : Addr) (s_EL : Addr) (s_EA : Addr) (mr : Addr) (H : En Z s_I32 s_DEF s_EL s_EA mr) (a ed : Addr) (kE : ClassId) (mc : Int32) (x0 x1 : Addr) (Ex0 : Exa Z h x0 "com/example/strictwire/strictwire/Field") (Ex1 : Exa Z h x1 "com/example/strictwire/strictwire/Field") (P : AL1 Z n0 h a ed kE mc (2 : Int32) [(.ref x0), (.ref x1), .null, .null, .null, .null, .null, .null, .null, .null]) : Con l Z (⟨"java/util/ImmutableCollections", "listCopy", "(Ljava/util/Collection;)Ljava/util/List;"⟩ : MethodName) jdk_56_method_3_code 2 (some (.object "java/util/List")) ({ frames := 6, cells := 2, slots := 4, locals := 76 } : Room) #[(.ref a)] h n0 (fun v h' => ∃ L, v = some (.ref L) ∧ h.size ≤ L ∧ Keep h h' [] ∧ Exa Z h' L "java/util/ImmutableCollections$List12") := by
  refine Con.mk (Ls := #[.val (.ref a), .unset]) (plainFor_of_name pn_11) (fun m => by first | (simp [entryFrame, mkF, argsToLocals, Value.category]; done) | rfl) (fun w C => ?_)
  replace C : Cx w l Z "java/util/ImmutableCollections" jdk_56_method_3_code 2 (some (.object "java/util/List")) "listCopy" ({ frames := 6, cells := 2, slots := 4, locals := 76 } : Room) n0 := C
  obtain ⟨S_I32, E_I32, S_DEF, E_DEF, V_DEF, S_EL, E_EL, F_EL, V_EA, MIR⟩ := id H
  obtain ⟨kD, V_DEF⟩ := V_DEF
  obtain ⟨kEA, V_EA⟩ := V_EA
  have P0 := P
  obtain ⟨ga, ge, nae, Ov, E0, Ee, F1, F2, F3, A1⟩ := P
  refine g_aloadN C (pc' := 1) d21_0 rfl rfl rfl ?_
  refine g_instN C (pc' := 4) (wd hw 151 rfl) d21_1 rfl E0 (ns_no (wd hw 139 rfl) (wd hw 196 rfl) (NS.step (wd hw 139 rfl) (NS.step (wd hw 140 rfl) (NS.step (wd hw 141 rfl) (ns_root (wd hw 142 rfl) (wd hw 196 rfl) (by decide)) (by decide)) (by decide)) (by decide)) (by decide)) rfl ?_
  refine g_ifN C (pc' := 7) d21_4 rfl (by decide) rfl ?_
  refine g_aloadN C (pc' := 8) d21_7 rfl rfl rfl ?_
  refine g_instN C (pc' := 11) (wd hw 152 rfl) d21_8 rfl E0 (NS.no (wd hw 139 rfl) (wd hw 230 rfl) (NS.step (wd hw 139 rfl) (NS.step (wd hw 140 rfl) (NS.step (wd hw 141 rfl) (NS.root (wd hw 142 rfl) (wd hw 230 rfl) (by decide)) (by decide)) (by decide)) (by decide)) (by decide)) rfl ?_
  refine g_ifY C (pc' := 31) d21_11 rfl (by decide) (by decide) rfl ?_
  refine g_aloadN C (pc' := 32) d21_31 rfl rfl rfl ?_
  refine g_interface C (pc' := 37) (k' := 0) (n' := 0) (argsL := []) (rest := []) (wd hw 153 rfl) (wd hw 154 rfl) (wd hw 155 rfl) rfl (wd hw 156 rfl) (wd hw 157 rfl) (wd hw 158 rfl) (wd hw 159 rfl) (wd hw 160 rfl) (wd hw 42 rfl) (wd hw 161 rfl) (by decide) d21_32 pd_16 rfl rfl rfl E0 (alEmp_2 l Z a0 hw n0 h O s_I32 s_DEF s_EL s_EA mr H a ed kE mc x0 x1 P0) (Nat.le_of_ble_eq_true rfl) (Nat.le_of_ble_eq_true rfl) (Nat.le_of_ble_eq_true rfl) (Nat.le_of_ble_eq_true rfl) rfl rfl rfl (fun v290 h289 q291 => ?_)
  obtain ⟨rfl, eh289⟩ := q291
  subst h289
  show G w _ h 0 0 37 #[.val (.ref a), .unset] [(.int (0 : Int32))]
  refine g_ifY C (pc' := 44) d21_37 rfl (by decide) (by decide) rfl ?_
  refine g_aloadN C (pc' := 45) d21_44 rfl rfl rfl ?_
  refine g_interface C (pc' := 50) (k' := 1) (n' := 2) (argsL := []) (rest := []) (wd hw 162 rfl) (wd hw 163 rfl) (wd hw 164 rfl) rfl (wd hw 165 rfl) (wd hw 166 rfl) (wd hw 167 rfl) (wd hw 168 rfl) (wd hw 160 rfl) (wd hw 42 rfl) (wd hw 169 rfl) (by decide) d21_45 pd_9 rfl rfl rfl E0 (toA_2 l Z a0 hw n0 h O s_I32 s_DEF s_EL s_EA mr H a ed kE mc x0 x1 Ex0 Ex1 P0) (Nat.le_of_ble_eq_true rfl) (Nat.le_of_ble_eq_true rfl) (Nat.le_of_ble_eq_true rfl) (Nat.le_of_ble_eq_true rfl) rfl rfl rfl (fun v293 h292 q294 => ?_)
  obtain ⟨g, kG, rfl, q1, q2, q3, q4⟩ := q294
  have ne_a_g : a ≠ g := Nat.ne_of_lt (Nat.lt_of_lt_of_le E0.lt q1)
  have ne_ed_g : ed ≠ g := Nat.ne_of_lt (Nat.lt_of_lt_of_le Ee.lt q1)
  have ne_x0_g : x0 ≠ g := Nat.ne_of_lt (Nat.lt_of_lt_of_le Ex0.lt q1)
  have ne_x1_g : x1 ≠ g := Nat.ne_of_lt (Nat.lt_of_lt_of_le Ex1.lt q1)
  have ge_g : n0 ≤ g := Nat.le_trans (O.1 ▸ O.2.1) q1
  have sz_g : h.size ≤ g := Nat.le_trans (Keep.refl h []).1 q1
  have f295 := O.keep q2 all0
  have f296 := (Keep.refl h []).trans q2 all0
  have f297 := E0.keep q2
  have f298 := F1.keep q2 nin0
  have f299 := F2.keep q2 nin0
  have f300 := F3.keep q2 nin0
  have f301 := Ee.keep q2
  have f302 := A1.keep q2 nin0
  have f303 := Ex0.keep q2
  have f304 := Ex1.keep q2
  show G w _ h292 1 2 50 #[.val (.ref a), .unset] [(.ref g)]
  refine g_callS C (pc' := 53) (k' := 2) (n' := 4) (argsL := [(.ref g)]) (rest := []) (wd hw 192 rfl) (wd hw 193 rfl) (wd hw 145 rfl) (wd hw 194 rfl) (by decide) d21_50 pd_21 rfl rfl rfl (lofA_2 l Z a0 hw n0 h292 f295 s_I32 s_DEF s_EL s_EA mr H g kG x0 x1 f303 f304 q4) (Nat.le_of_ble_eq_true rfl) (Nat.le_of_ble_eq_true rfl) (Nat.le_of_ble_eq_true rfl) (Nat.le_of_ble_eq_true rfl) rfl rfl rfl (fun v306 h305 q307 => ?_)
  obtain ⟨L, rfl, r1, r2, r3⟩ := q307
  have u1 := Nat.le_trans q2.1 r1
  have f308 := f295.keep r2 all0
  have f309 := f296.trans r2 all0
  have f310 := f297.keep r2
  have f311 := f298.keep r2 nin0
  have f312 := f299.keep r2 nin0
  have f313 := f300.keep r2 nin0
  have f314 := f301.keep r2
  have f315 := f302.keep r2 nin0
  have f316 := f303.keep r2
  have f317 := f304.keep r2
  have f318 := q4.keep r2 nin0
  show G w _ h305 2 4 53 #[.val (.ref a), .unset] [(.ref L)]
  exact g_areturn C d21_53 rfl rfl rfl rfl (Nat.le_of_ble_eq_true rfl) (Nat.le_of_ble_eq_true rfl) (⟨L, rfl, u1, f309, r3⟩)
set_option maxRecDepth 65536 in
set_option maxHeartbeats 40000000 in
theorem cpo_2 (l : Launch) (Z : State) (a0 : Array Value) (hw : ∀ d ∈ tables_1, d.before a0 Z = true) (n0 : Nat) (h : Heap) (O : Old Z n0 h) (s_I32 : Addr) (s_DEF : Addr) (s_EL : Addr) (s_EA : Addr) (mr : Addr) (H : En Z s_I32 s_DEF s_EL s_EA mr) (a ed : Addr) (kE : ClassId) (mc : Int32) (x0 x1 : Addr) (Ex0 : Exa Z h x0 "com/example/strictwire/strictwire/Field") (Ex1 : Exa Z h x1 "com/example/strictwire/strictwire/Field") (P : AL1 Z n0 h a ed kE mc (2 : Int32) [(.ref x0), (.ref x1), .null, .null, .null, .null, .null, .null, .null, .null]) : Con l Z (⟨"java/util/List", "copyOf", "(Ljava/util/Collection;)Ljava/util/List;"⟩ : MethodName) jdk_40_method_48_code 1 (some (.object "java/util/List")) ({ frames := 7, cells := 2, slots := 4, locals := 89 } : Room) #[(.ref a)] h n0 (fun v h' => ∃ L, v = some (.ref L) ∧ h.size ≤ L ∧ Keep h h' [] ∧ Exa Z h' L "java/util/ImmutableCollections$List12") := by
  refine Con.mk (Ls := #[.val (.ref a)]) (plainFor_of_name pn_15) (fun m => by first | (simp [entryFrame, mkF, argsToLocals, Value.category]; done) | rfl) (fun w C => ?_)
  replace C : Cx w l Z "java/util/List" jdk_40_method_48_code 1 (some (.object "java/util/List")) "copyOf" ({ frames := 7, cells := 2, slots := 4, locals := 89 } : Room) n0 := C
  obtain ⟨S_I32, E_I32, S_DEF, E_DEF, V_DEF, S_EL, E_EL, F_EL, V_EA, MIR⟩ := id H
  obtain ⟨kD, V_DEF⟩ := V_DEF
  obtain ⟨kEA, V_EA⟩ := V_EA
  refine g_aloadN C (pc' := 1) d20_0 rfl rfl rfl ?_
  refine g_callS C (pc' := 4) (k' := 2) (n' := 4) (argsL := [(.ref a)]) (rest := []) (wd hw 147 rfl) (wd hw 148 rfl) (wd hw 149 rfl) (wd hw 150 rfl) (by decide) d20_1 pd_15 rfl rfl rfl (lcp_2 l Z a0 hw n0 h O s_I32 s_DEF s_EL s_EA mr H a ed kE mc x0 x1 Ex0 Ex1 P) (Nat.le_of_ble_eq_true rfl) (Nat.le_of_ble_eq_true rfl) (Nat.le_of_ble_eq_true rfl) (Nat.le_of_ble_eq_true rfl) rfl rfl rfl (fun v320 h319 q321 => ?_)
  obtain ⟨L, rfl, q1, q2, q3⟩ := q321
  show G w _ h319 2 4 4 #[.val (.ref a)] [(.ref L)]
  exact g_areturn C d20_4 rfl rfl rfl rfl (Nat.le_of_ble_eq_true rfl) (Nat.le_of_ble_eq_true rfl) (⟨L, rfl, q1, q2, q3⟩)
set_option maxRecDepth 65536 in
set_option maxHeartbeats 40000000 in
theorem acolV_0 (l : Launch) (Z : State) (a0 : Array Value) (hw : ∀ d ∈ tables_1, d.before a0 Z = true) (n0 : Nat) (h : Heap) (O : Old Z n0 h) (s_I32 : Addr) (s_DEF : Addr) (s_EL : Addr) (s_EA : Addr) (mr : Addr) (H : En Z s_I32 s_DEF s_EL s_EA mr) (a : Addr) (E0 : Exa Z h a "com/example/strictwire/strictwire/ValueList") : Con l Z (⟨"java/util/AbstractCollection", "<init>", "()V"⟩ : MethodName) jdk_22_method_1_code 1 none ({ frames := 1, cells := 0, slots := 0, locals := 12 } : Room) #[(.ref a)] h n0 (fun v h' => v = none ∧ h' = h) := by
  refine Con.mk (Ls := #[.val (.ref a)]) (plainFor_of_name pn_7) (fun m => by first | (simp [entryFrame, mkF, argsToLocals, Value.category]; done) | rfl) (fun w C => ?_)
  replace C : Cx w l Z "java/util/AbstractCollection" jdk_22_method_1_code 1 none "<init>" ({ frames := 1, cells := 0, slots := 0, locals := 12 } : Room) n0 := C
  obtain ⟨S_I32, E_I32, S_DEF, E_DEF, V_DEF, S_EL, E_EL, F_EL, V_EA, MIR⟩ := id H
  obtain ⟨kD, V_DEF⟩ := V_DEF
  obtain ⟨kEA, V_EA⟩ := V_EA
  refine g_aloadN C (pc' := 1) d8_0 rfl rfl rfl ?_
  refine g_initO C (pc' := 4) (wd hw 58 rfl) (wd hw 12 rfl) (wd hw 13 rfl) d8_1 rfl rfl (Nat.le_of_ble_eq_true rfl) (Nat.le_of_ble_eq_true rfl) rfl ?_
  exact g_return C d8_4 rfl (Nat.le_of_ble_eq_true rfl) (Nat.le_of_ble_eq_true rfl) (⟨rfl, rfl⟩)
set_option maxRecDepth 65536 in
set_option maxHeartbeats 40000000 in
theorem ablV (l : Launch) (Z : State) (a0 : Array Value) (hw : ∀ d ∈ tables_1, d.before a0 Z = true) (n0 : Nat) (h : Heap) (O : Old Z n0 h) (s_I32 : Addr) (s_DEF : Addr) (s_EL : Addr) (s_EA : Addr) (mr : Addr) (H : En Z s_I32 s_DEF s_EL s_EA mr) (a : Addr) (ga : n0 ≤ a) (E0 : Exa Z h a "com/example/strictwire/strictwire/ValueList") (F1 : Fld Z h a "java/util/AbstractList" "modCount" "I" (.int (0 : Int32))) : Con l Z (⟨"java/util/AbstractList", "<init>", "()V"⟩ : MethodName) jdk_39_method_1_code 1 none ({ frames := 2, cells := 0, slots := 0, locals := 24 } : Room) #[(.ref a)] h n0 (fun v h' => v = none ∧ Keep h h' [a] ∧ Exa Z h' a "com/example/strictwire/strictwire/ValueList" ∧ Fld Z h' a "java/util/AbstractList" "modCount" "I" (.int (0 : Int32)) ∧ (∀ {C f d : String} {v : Value}, Laid Z a0 "com/example/strictwire/strictwire/ValueList" C f d → (f ≠ "modCount") → (∃ t, parseFieldDescriptor d = some t) → Fld Z h a C f d v → Fld Z h' a C f d v)) := by
  refine Con.mk (Ls := #[.val (.ref a)]) (plainFor_of_name pn_8) (fun m => by first | (simp [entryFrame, mkF, argsToLocals, Value.category]; done) | rfl) (fun w C => ?_)
  replace C : Cx w l Z "java/util/AbstractList" jdk_39_method_1_code 1 none "<init>" ({ frames := 2, cells := 0, slots := 0, locals := 24 } : Room) n0 := C
  obtain ⟨S_I32, E_I32, S_DEF, E_DEF, V_DEF, S_EL, E_EL, F_EL, V_EA, MIR⟩ := id H
  obtain ⟨kD, V_DEF⟩ := V_DEF
  obtain ⟨kEA, V_EA⟩ := V_EA
  refine g_aloadN C (pc' := 1) d7_0 rfl rfl rfl ?_
  refine g_special C (pc' := 4) (k' := 0) (n' := 0) (argsL := []) (rest := []) (wd hw 52 rfl) (wd hw 53 rfl) (wd hw 56 rfl) (wd hw 57 rfl) (by decide) rfl d7_1 pd_1 rfl rfl rfl (acolV_0 l Z a0 hw n0 h O s_I32 s_DEF s_EL s_EA mr H a E0) (Nat.le_of_ble_eq_true rfl) (Nat.le_of_ble_eq_true rfl) (Nat.le_of_ble_eq_true rfl) (Nat.le_of_ble_eq_true rfl) rfl rfl rfl (fun v323 h322 q324 => ?_)
  obtain ⟨rfl, eh322⟩ := q324
  subst h322
  show G w _ h 0 0 4 #[.val (.ref a)] []
  refine g_aloadN C (pc' := 5) d7_4 rfl rfl rfl ?_
  refine g_iconst C (pc' := 6) (v := (0 : Int32)) d7_5 (by decide) rfl ?_
  refine g_putF C (pc' := 9) (ty := .int) (wd hw 59 rfl) Via.refl d7_6 rfl F1 E0 (Or.inl (wd hw 77 rfl)) (wd hw 71 rfl) (by decide) rfl rfl ga rfl (fun h325 W326 => ?_)
  have f327 := O.wr W326 ga
  have f328 := (Keep.refl h [a]).wr W326 (Or.inl (List.mem_of_getElem? (i := 0) rfl))
  have f329 := E0.wr W326
  have f330 := F1.same W326
  exact g_return C d7_9 rfl (Nat.le_of_ble_eq_true rfl) (Nat.le_of_ble_eq_true rfl) (⟨rfl, f328, f329, f330, fun L q ⟨t, ht⟩ F => F.other W326 (Or.inr (slot_ne L (Or.inl (wd hw 77 rfl)) q ht (t' := .int) (by decide)))⟩)
theorem d10_0 : decode prog_38_method_1_code 0 = .ok (.aload_n 0, 1) := by decide +kernel
theorem d10_1 : decode prog_38_method_1_code 1 = .ok (.invokespecial 1, 3) := by decide +kernel
theorem d10_4 : decode prog_38_method_1_code 4 = .ok (.aload_n 0, 1) := by decide +kernel
theorem d10_5 : decode prog_38_method_1_code 5 = .ok (.aload_n 1, 1) := by decide +kernel
theorem d10_6 : decode prog_38_method_1_code 6 = .ok (.putfield 7, 3) := by decide +kernel
theorem d10_9 : decode prog_38_method_1_code 9 = .ok (.aload_n 0, 1) := by decide +kernel
theorem d10_10 : decode prog_38_method_1_code 10 = .ok (.iload_n 2, 1) := by decide +kernel
theorem d10_11 : decode prog_38_method_1_code 11 = .ok (.putfield 13, 3) := by decide +kernel
theorem d10_14 : decode prog_38_method_1_code 14 = .ok (.aload_n 0, 1) := by decide +kernel
theorem d10_15 : decode prog_38_method_1_code 15 = .ok (.aload_n 3, 1) := by decide +kernel
theorem d10_16 : decode prog_38_method_1_code 16 = .ok (.putfield 17, 3) := by decide +kernel
theorem d10_19 : decode prog_38_method_1_code 19 = .ok (.return_, 1) := by decide +kernel
theorem pn_2 : plainName "com/example/strictwire/strictwire/ValueList" = true := by first | (simp [plainName, overriddenIn]; done) | decide +kernel
set_option maxRecDepth 65536 in
set_option maxHeartbeats 40000000 in
theorem vlI_1 (l : Launch) (Z : State) (a0 : Array Value) (hw : ∀ d ∈ tables_1, d.before a0 Z = true) (n0 : Nat) (h : Heap) (O : Old Z n0 h) (s_I32 : Addr) (s_DEF : Addr) (s_EL : Addr) (s_EA : Addr) (mr : Addr) (H : En Z s_I32 s_DEF s_EL s_EA mr) (a ar : Addr) (ga : n0 ≤ a) (E0 : Exa Z h a "com/example/strictwire/strictwire/ValueList") (F1 : Fld Z h a "java/util/AbstractList" "modCount" "I" (.int (0 : Int32))) (F_elements : Fld Z h a "com/example/strictwire/strictwire/ValueList" "elements" "[Ljava/lang/Object;" .null) (F_distinctIds : Fld Z h a "com/example/strictwire/strictwire/ValueList" "distinctIds" "Z" (.int (0 : Int32))) (F_elementType : Fld Z h a "com/example/strictwire/strictwire/ValueList" "elementType" "Lcom/example/strictwire/strictwire/WireType;" .null) : Con l Z (⟨"com/example/strictwire/strictwire/ValueList", "<init>", "([Ljava/lang/Object;ZLcom/example/strictwire/strictwire/WireType;)V"⟩ : MethodName) prog_38_method_1_code 4 none ({ frames := 3, cells := 0, slots := 0, locals := 36 } : Room) #[(.ref a), (.ref ar), (.int (1 : Int32)), .null] h n0 (fun r h' => r = none ∧ Keep h h' [a] ∧ Exa Z h' a "com/example/strictwire/strictwire/ValueList" ∧ Fld Z h' a "com/example/strictwire/strictwire/ValueList" "distinctIds" "Z" (.int (1 : Int32))) := by
  refine Con.mk (Ls := #[.val (.ref a), .val (.ref ar), .val (.int (1 : Int32)), .val .null]) (plainFor_of_name pn_2) (fun m => by first | (simp [entryFrame, mkF, argsToLocals, Value.category]; done) | rfl) (fun w C => ?_)
  replace C : Cx w l Z "com/example/strictwire/strictwire/ValueList" prog_38_method_1_code 4 none "<init>" ({ frames := 3, cells := 0, slots := 0, locals := 36 } : Room) n0 := C
  obtain ⟨S_I32, E_I32, S_DEF, E_DEF, V_DEF, S_EL, E_EL, F_EL, V_EA, MIR⟩ := id H
  obtain ⟨kD, V_DEF⟩ := V_DEF
  obtain ⟨kEA, V_EA⟩ := V_EA
  refine g_aloadN C (pc' := 1) d10_0 rfl rfl rfl ?_
  refine g_special C (pc' := 4) (k' := 0) (n' := 0) (argsL := []) (rest := []) (wd hw 75 rfl) (wd hw 47 rfl) (wd hw 50 rfl) (wd hw 51 rfl) (by decide) rfl d10_1 pd_1 rfl rfl rfl (ablV l Z a0 hw n0 h O s_I32 s_DEF s_EL s_EA mr H a ga E0 F1) (Nat.le_of_ble_eq_true rfl) (Nat.le_of_ble_eq_true rfl) (Nat.le_of_ble_eq_true rfl) (Nat.le_of_ble_eq_true rfl) rfl rfl rfl (fun v336 h335 q337 => ?_)
  obtain ⟨rfl, K331, E332, F333, T334⟩ := q337
  have f338 := O.keep K331 (allS ga all0)
  have f339 := (Keep.refl h [a]).trans K331 (allS (Or.inl (List.mem_of_getElem? (i := 0) rfl)) all0)
  have f340 := E0.keep K331
  have f341 := T334 (Or.inr (wd hw 79 rfl)) (by decide) ⟨_, (by decide : parseFieldDescriptor "[Ljava/lang/Object;" = some (.array (.object "java/lang/Object")))⟩ F_elements
  have f342 := T334 (Or.inr (wd hw 81 rfl)) (by decide) ⟨_, (by decide : parseFieldDescriptor "Z" = some .boolean)⟩ F_distinctIds
  have f343 := T334 (Or.inr (wd hw 83 rfl)) (by decide) ⟨_, (by decide : parseFieldDescriptor "Lcom/example/strictwire/strictwire/WireType;" = some (.object "com/example/strictwire/strictwire/WireType"))⟩ F_elementType
  show G w _ h335 0 0 4 #[.val (.ref a), .val (.ref ar), .val (.int (1 : Int32)), .val .null] []
  refine g_aloadN C (pc' := 5) d10_4 rfl rfl rfl ?_
  refine g_aloadN C (pc' := 6) d10_5 rfl rfl rfl ?_
  refine g_putF C (pc' := 9) (ty := (.array (.object "java/lang/Object"))) (wd hw 78 rfl) Via.refl d10_6 rfl f341 f340 (Or.inr ⟨(wd hw 79 rfl), rfl, rfl⟩) (wd hw 71 rfl) (by decide) rfl rfl ga rfl (fun h344 W345 => ?_)
  have f346 := f338.wr W345 ga
  have f347 := f339.wr W345 (Or.inl (List.mem_of_getElem? (i := 0) rfl))
  have f348 := f340.wr W345
  have f349 := F333.other W345 (Or.inr (slot_ne (Or.inl (wd hw 77 rfl)) (Or.inr (wd hw 79 rfl)) (by decide) (t := .int) (t' := (.array (.object "java/lang/Object"))) (by decide) (by decide)))
  have f350 := f341.same W345
  have f351 := f342.other W345 (Or.inr (slot_ne (Or.inr (wd hw 81 rfl)) (Or.inr (wd hw 79 rfl)) (by decide) (t := .boolean) (t' := (.array (.object "java/lang/Object"))) (by decide) (by decide)))
  have f352 := f343.other W345 (Or.inr (slot_ne (Or.inr (wd hw 83 rfl)) (Or.inr (wd hw 79 rfl)) (by decide) (t := (.object "com/example/strictwire/strictwire/WireType")) (t' := (.array (.object "java/lang/Object"))) (by decide) (by decide)))
  refine g_aloadN C (pc' := 10) d10_9 rfl rfl rfl ?_
  refine g_iloadN C (pc' := 11) d10_10 rfl rfl ?_
  refine g_putFN C (pc' := 14) (v' := (.int (1 : Int32))) (ty := .boolean) (wd hw 80 rfl) Via.refl d10_11 rfl f351 f348 (Or.inr ⟨(wd hw 81 rfl), rfl, rfl⟩) (wd hw 71 rfl) (by decide) rfl rfl ga rfl (fun h353 W354 => ?_)
  have f355 := f346.wr W354 ga
  have f356 := f347.wr W354 (Or.inl (List.mem_of_getElem? (i := 0) rfl))
  have f357 := f348.wr W354
  have f358 := f349.other W354 (Or.inr (slot_ne (Or.inl (wd hw 77 rfl)) (Or.inr (wd hw 81 rfl)) (by decide) (t := .int) (t' := .boolean) (by decide) (by decide)))
  have f359 := f350.other W354 (Or.inr (slot_ne (Or.inr (wd hw 79 rfl)) (Or.inr (wd hw 81 rfl)) (by decide) (t := (.array (.object "java/lang/Object"))) (t' := .boolean) (by decide) (by decide)))
  have f360 := f351.same W354
  have f361 := f352.other W354 (Or.inr (slot_ne (Or.inr (wd hw 83 rfl)) (Or.inr (wd hw 81 rfl)) (by decide) (t := (.object "com/example/strictwire/strictwire/WireType")) (t' := .boolean) (by decide) (by decide)))
  refine g_aloadN C (pc' := 15) d10_14 rfl rfl rfl ?_
  refine g_aloadN C (pc' := 16) d10_15 rfl rfl rfl ?_
  refine g_putF C (pc' := 19) (ty := (.object "com/example/strictwire/strictwire/WireType")) (wd hw 82 rfl) Via.refl d10_16 rfl f361 f357 (Or.inr ⟨(wd hw 83 rfl), rfl, rfl⟩) (wd hw 71 rfl) (by decide) rfl rfl ga rfl (fun h362 W363 => ?_)
  have f364 := f355.wr W363 ga
  have f365 := f356.wr W363 (Or.inl (List.mem_of_getElem? (i := 0) rfl))
  have f366 := f357.wr W363
  have f367 := f358.other W363 (Or.inr (slot_ne (Or.inl (wd hw 77 rfl)) (Or.inr (wd hw 83 rfl)) (by decide) (t := .int) (t' := (.object "com/example/strictwire/strictwire/WireType")) (by decide) (by decide)))
  have f368 := f359.other W363 (Or.inr (slot_ne (Or.inr (wd hw 79 rfl)) (Or.inr (wd hw 83 rfl)) (by decide) (t := (.array (.object "java/lang/Object"))) (t' := (.object "com/example/strictwire/strictwire/WireType")) (by decide) (by decide)))
  have f369 := f360.other W363 (Or.inr (slot_ne (Or.inr (wd hw 81 rfl)) (Or.inr (wd hw 83 rfl)) (by decide) (t := .boolean) (t' := (.object "com/example/strictwire/strictwire/WireType")) (by decide) (by decide)))
  have f370 := f361.same W363
  exact g_return C d10_19 rfl (Nat.le_of_ble_eq_true rfl) (Nat.le_of_ble_eq_true rfl) (⟨rfl, f365, f366, f369⟩)
theorem d9_0 : decode prog_38_method_2_code 0 = .ok (.new 8, 3) := by decide +kernel
theorem d9_3 : decode prog_38_method_2_code 3 = .ok (.dup, 1) := by decide +kernel
theorem d9_4 : decode prog_38_method_2_code 4 = .ok (.aload_n 0, 1) := by decide +kernel
theorem d9_5 : decode prog_38_method_2_code 5 = .ok (.iconst 1, 1) := by decide +kernel
theorem d9_6 : decode prog_38_method_2_code 6 = .ok (.aconst_null, 1) := by decide +kernel
theorem d9_7 : decode prog_38_method_2_code 7 = .ok (.invokespecial 21, 3) := by decide +kernel
theorem pd_5 : parseMethodDescriptor "([Ljava/lang/Object;ZLcom/example/strictwire/strictwire/WireType;)V" = some ⟨[(.array (.object "java/lang/Object")), .boolean, (.object "com/example/strictwire/strictwire/WireType")], none⟩ := by decide +kernel
theorem d9_10 : decode prog_38_method_2_code 10 = .ok (.areturn, 1) := by decide +kernel
set_option maxRecDepth 65536 in
set_option maxHeartbeats 40000000 in
theorem ofL_1 (l : Launch) (Z : State) (a0 : Array Value) (hw : ∀ d ∈ tables_1, d.before a0 Z = true) (n0 : Nat) (h : Heap) (O : Old Z n0 h) (s_I32 : Addr) (s_DEF : Addr) (s_EL : Addr) (s_EA : Addr) (mr : Addr) (H : En Z s_I32 s_DEF s_EL s_EA mr) (ar : Addr) : Con l Z (⟨"com/example/strictwire/strictwire/ValueList", "ofFields", "([Lcom/example/strictwire/strictwire/Field;)Lcom/example/strictwire/strictwire/ValueList;"⟩ : MethodName) prog_38_method_2_code 1 (some (.object "com/example/strictwire/strictwire/ValueList")) ({ frames := 4, cells := 1, slots := 4, locals := 52 } : Room) #[(.ref ar)] h n0 (fun v h' => ∃ b, v = some (.ref b) ∧ h.size ≤ b ∧ Keep h h' [] ∧ Exa Z h' b "com/example/strictwire/strictwire/ValueList" ∧ Fld Z h' b "com/example/strictwire/strictwire/ValueList" "distinctIds" "Z" (.int (1 : Int32))) := by
  refine Con.mk (Ls := #[.val (.ref ar)]) (plainFor_of_name pn_2) (fun m => by first | (simp [entryFrame, mkF, argsToLocals, Value.category]; done) | rfl) (fun w C => ?_)
  replace C : Cx w l Z "com/example/strictwire/strictwire/ValueList" prog_38_method_2_code 1 (some (.object "com/example/strictwire/strictwire/ValueList")) "ofFields" ({ frames := 4, cells := 1, slots := 4, locals := 52 } : Room) n0 := C
  obtain ⟨S_I32, E_I32, S_DEF, E_DEF, V_DEF, S_EL, E_EL, F_EL, V_EA, MIR⟩ := id H
  obtain ⟨kD, V_DEF⟩ := V_DEF
  obtain ⟨kEA, V_EA⟩ := V_EA
  refine g_new C (pc' := 3) (k' := 1) (n' := 4) (wd hw 70 rfl) (wd hw 71 rfl) (wd hw 68 rfl) d9_0 (by decide) (by decide) rfl rfl rfl (fun h371 b372 ex373 E374 A375 D376 => ?_)
  have ge_b372 : n0 ≤ b372 := by rw [ex373]; exact O.1 ▸ O.2.1
  have sz_b372 : h.size ≤ b372 := by rw [ex373]; exact (Keep.refl h []).1
  have f377 := O.ext E374
  have f378 := (Keep.refl h []).ext E374
  have F_modCount_b372 : Fld Z h371 b372 "java/util/AbstractList" "modCount" "I" (.int (0 : Int32)) := D376 (Or.inl (wd hw 77 rfl)) (ty := .int) (by decide)
  have F_elements_b372 : Fld Z h371 b372 "com/example/strictwire/strictwire/ValueList" "elements" "[Ljava/lang/Object;" .null := D376 (Or.inr (wd hw 79 rfl)) (ty := (.array (.object "java/lang/Object"))) (by decide)
  have F_distinctIds_b372 : Fld Z h371 b372 "com/example/strictwire/strictwire/ValueList" "distinctIds" "Z" (.int (0 : Int32)) := D376 (Or.inr (wd hw 81 rfl)) (ty := .boolean) (by decide)
  have F_elementType_b372 : Fld Z h371 b372 "com/example/strictwire/strictwire/ValueList" "elementType" "Lcom/example/strictwire/strictwire/WireType;" .null := D376 (Or.inr (wd hw 83 rfl)) (ty := (.object "com/example/strictwire/strictwire/WireType")) (by decide)
  refine g_dup C (pc' := 4) d9_3 rfl rfl rfl ?_
  refine g_aloadN C (pc' := 5) d9_4 rfl rfl rfl ?_
  refine g_iconst C (pc' := 6) (v := (1 : Int32)) d9_5 (by decide) rfl ?_
  refine g_aconstNull C (pc' := 7) d9_6 rfl ?_
  refine g_special C (pc' := 10) (k' := 1) (n' := 4) (argsL := [(.ref ar), (.int (1 : Int32)), .null]) (rest := [(.ref b372)]) (wd hw 72 rfl) (wd hw 73 rfl) (wd hw 68 rfl) (wd hw 74 rfl) (by decide) rfl d9_7 pd_5 rfl rfl rfl (vlI_1 l Z a0 hw n0 h371 f377 s_I32 s_DEF s_EL s_EA mr H b372 ar ge_b372 A375 F_modCount_b372 F_elements_b372 F_distinctIds_b372 F_elementType_b372) (Nat.le_of_ble_eq_true rfl) (Nat.le_of_ble_eq_true rfl) (Nat.le_of_ble_eq_true rfl) (Nat.le_of_ble_eq_true rfl) rfl rfl rfl (fun v380 h379 q381 => ?_)
  obtain ⟨rfl, k1, k2, k3⟩ := q381
  have f382 := f377.keep k1 (allS ge_b372 all0)
  have f383 := f378.trans k1 (allS (Or.inr sz_b372) all0)
  have f384 := A375.keep k1
  show G w _ h379 1 4 10 #[.val (.ref ar)] [(.ref b372)]
  exact g_areturn C d9_10 rfl rfl rfl rfl (Nat.le_of_ble_eq_true rfl) (Nat.le_of_ble_eq_true rfl) (⟨b372, rfl, sz_b372, f383, k2, k3⟩)
theorem d11_0 : decode prog_38_method_6_code 0 = .ok (.aload_n 0, 1) := by decide +kernel
theorem d11_1 : decode prog_38_method_6_code 1 = .ok (.instanceof 8, 3) := by decide +kernel
theorem d11_4 : decode prog_38_method_6_code 4 = .ok (.ifCond .eq 19, 3) := by decide +kernel
theorem d11_7 : decode prog_38_method_6_code 7 = .ok (.aload_n 0, 1) := by decide +kernel
theorem d11_8 : decode prog_38_method_6_code 8 = .ok (.checkcast 8, 3) := by decide +kernel
theorem d11_11 : decode prog_38_method_6_code 11 = .ok (.astore_n 1, 1) := by decide +kernel
theorem d11_12 : decode prog_38_method_6_code 12 = .ok (.aload_n 1, 1) := by decide +kernel
theorem d11_13 : decode prog_38_method_6_code 13 = .ok (.getfield 13, 3) := by decide +kernel
theorem d11_16 : decode prog_38_method_6_code 16 = .ok (.ifCond .eq 7, 3) := by decide +kernel
theorem d11_19 : decode prog_38_method_6_code 19 = .ok (.iconst 1, 1) := by decide +kernel
theorem d11_20 : decode prog_38_method_6_code 20 = .ok (.goto 4, 3) := by decide +kernel
theorem d11_24 : decode prog_38_method_6_code 24 = .ok (.ireturn, 1) := by decide +kernel
set_option maxRecDepth 65536 in
set_option maxHeartbeats 40000000 in
theorem hd_1 (l : Launch) (Z : State) (a0 : Array Value) (hw : ∀ d ∈ tables_1, d.before a0 Z = true) (n0 : Nat) (h : Heap) (O : Old Z n0 h) (s_I32 : Addr) (s_DEF : Addr) (s_EL : Addr) (s_EA : Addr) (mr : Addr) (H : En Z s_I32 s_DEF s_EL s_EA mr) (b : Addr) (E0 : Exa Z h b "com/example/strictwire/strictwire/ValueList") (F0 : Fld Z h b "com/example/strictwire/strictwire/ValueList" "distinctIds" "Z" (.int (1 : Int32))) : Con l Z (⟨"com/example/strictwire/strictwire/ValueList", "hasDistinctIds", "(Ljava/util/List;)Z"⟩ : MethodName) prog_38_method_6_code 2 (some .boolean) ({ frames := 0, cells := 0, slots := 0, locals := 0 } : Room) #[(.ref b)] h n0 (fun v h' => v = some (.int (1 : Int32)) ∧ h' = h) := by
  refine Con.mk (Ls := #[.val (.ref b), .unset]) (plainFor_of_name pn_2) (fun m => by first | (simp [entryFrame, mkF, argsToLocals, Value.category]; done) | rfl) (fun w C => ?_)
  replace C : Cx w l Z "com/example/strictwire/strictwire/ValueList" prog_38_method_6_code 2 (some .boolean) "hasDistinctIds" ({ frames := 0, cells := 0, slots := 0, locals := 0 } : Room) n0 := C
  obtain ⟨S_I32, E_I32, S_DEF, E_DEF, V_DEF, S_EL, E_EL, F_EL, V_EA, MIR⟩ := id H
  obtain ⟨kD, V_DEF⟩ := V_DEF
  obtain ⟨kEA, V_EA⟩ := V_EA
  refine g_aloadN C (pc' := 1) d11_0 rfl rfl rfl ?_
  refine g_instY C (pc' := 4) (wd hw 70 rfl) d11_1 rfl (Ins.self E0) rfl ?_
  refine g_ifN C (pc' := 7) d11_4 rfl (by decide) rfl ?_
  refine g_aloadN C (pc' := 8) d11_7 rfl rfl rfl ?_
  refine g_cast C (pc' := 11) (wd hw 70 rfl) d11_8 rfl (Ins.self E0) rfl ?_
  refine g_astoreN C (pc' := 12) (Ls' := #[.val (.ref b), .val (.ref b)]) d11_11 rfl rfl rfl rfl ?_
  refine g_aloadN C (pc' := 13) d11_12 rfl rfl rfl ?_
  refine g_getF C (pc' := 16) (wd hw 80 rfl) Via.refl d11_13 rfl F0 rfl ?_
  refine g_ifN C (pc' := 19) d11_16 rfl (by decide) rfl ?_
  refine g_iconst C (pc' := 20) (v := (1 : Int32)) d11_19 (by decide) rfl ?_
  refine g_goto C (pc' := 24) d11_20 (by decide) rfl ?_
  exact g_zreturn C d11_24 rfl rfl (Nat.le_of_ble_eq_true rfl) (Nat.le_of_ble_eq_true rfl) (⟨rfl, rfl⟩)
set_option maxRecDepth 65536 in
set_option maxHeartbeats 40000000 in
theorem vlI_0 (l : Launch) (Z : State) (a0 : Array Value) (hw : ∀ d ∈ tables_1, d.before a0 Z = true) (n0 : Nat) (h : Heap) (O : Old Z n0 h) (s_I32 : Addr) (s_DEF : Addr) (s_EL : Addr) (s_EA : Addr) (mr : Addr) (H : En Z s_I32 s_DEF s_EL s_EA mr) (a ar ty : Addr) (ga : n0 ≤ a) (E0 : Exa Z h a "com/example/strictwire/strictwire/ValueList") (F1 : Fld Z h a "java/util/AbstractList" "modCount" "I" (.int (0 : Int32))) (F_elements : Fld Z h a "com/example/strictwire/strictwire/ValueList" "elements" "[Ljava/lang/Object;" .null) (F_distinctIds : Fld Z h a "com/example/strictwire/strictwire/ValueList" "distinctIds" "Z" (.int (0 : Int32))) (F_elementType : Fld Z h a "com/example/strictwire/strictwire/ValueList" "elementType" "Lcom/example/strictwire/strictwire/WireType;" .null) : Con l Z (⟨"com/example/strictwire/strictwire/ValueList", "<init>", "([Ljava/lang/Object;ZLcom/example/strictwire/strictwire/WireType;)V"⟩ : MethodName) prog_38_method_1_code 4 none ({ frames := 3, cells := 0, slots := 0, locals := 36 } : Room) #[(.ref a), (.ref ar), (.int (0 : Int32)), (.ref ty)] h n0 (fun r h' => r = none ∧ Keep h h' [a] ∧ Exa Z h' a "com/example/strictwire/strictwire/ValueList" ∧ Fld Z h' a "com/example/strictwire/strictwire/ValueList" "distinctIds" "Z" (.int (0 : Int32))) := by
  refine Con.mk (Ls := #[.val (.ref a), .val (.ref ar), .val (.int (0 : Int32)), .val (.ref ty)]) (plainFor_of_name pn_2) (fun m => by first | (simp [entryFrame, mkF, argsToLocals, Value.category]; done) | rfl) (fun w C => ?_)
  replace C : Cx w l Z "com/example/strictwire/strictwire/ValueList" prog_38_method_1_code 4 none "<init>" ({ frames := 3, cells := 0, slots := 0, locals := 36 } : Room) n0 := C
  obtain ⟨S_I32, E_I32, S_DEF, E_DEF, V_DEF, S_EL, E_EL, F_EL, V_EA, MIR⟩ := id H
  obtain ⟨kD, V_DEF⟩ := V_DEF
  obtain ⟨kEA, V_EA⟩ := V_EA
  refine g_aloadN C (pc' := 1) d10_0 rfl rfl rfl ?_
  refine g_special C (pc' := 4) (k' := 0) (n' := 0) (argsL := []) (rest := []) (wd hw 75 rfl) (wd hw 47 rfl) (wd hw 50 rfl) (wd hw 51 rfl) (by decide) rfl d10_1 pd_1 rfl rfl rfl (ablV l Z a0 hw n0 h O s_I32 s_DEF s_EL s_EA mr H a ga E0 F1) (Nat.le_of_ble_eq_true rfl) (Nat.le_of_ble_eq_true rfl) (Nat.le_of_ble_eq_true rfl) (Nat.le_of_ble_eq_true rfl) rfl rfl rfl (fun v390 h389 q391 => ?_)
  obtain ⟨rfl, K385, E386, F387, T388⟩ := q391
  have f392 := O.keep K385 (allS ga all0)
  have f393 := (Keep.refl h [a]).trans K385 (allS (Or.inl (List.mem_of_getElem? (i := 0) rfl)) all0)
  have f394 := E0.keep K385
  have f395 := T388 (Or.inr (wd hw 79 rfl)) (by decide) ⟨_, (by decide : parseFieldDescriptor "[Ljava/lang/Object;" = some (.array (.object "java/lang/Object")))⟩ F_elements
  have f396 := T388 (Or.inr (wd hw 81 rfl)) (by decide) ⟨_, (by decide : parseFieldDescriptor "Z" = some .boolean)⟩ F_distinctIds
  have f397 := T388 (Or.inr (wd hw 83 rfl)) (by decide) ⟨_, (by decide : parseFieldDescriptor "Lcom/example/strictwire/strictwire/WireType;" = some (.object "com/example/strictwire/strictwire/WireType"))⟩ F_elementType
  show G w _ h389 0 0 4 #[.val (.ref a), .val (.ref ar), .val (.int (0 : Int32)), .val (.ref ty)] []
  refine g_aloadN C (pc' := 5) d10_4 rfl rfl rfl ?_
  refine g_aloadN C (pc' := 6) d10_5 rfl rfl rfl ?_
  refine g_putF C (pc' := 9) (ty := (.array (.object "java/lang/Object"))) (wd hw 78 rfl) Via.refl d10_6 rfl f395 f394 (Or.inr ⟨(wd hw 79 rfl), rfl, rfl⟩) (wd hw 71 rfl) (by decide) rfl rfl ga rfl (fun h398 W399 => ?_)
  have f400 := f392.wr W399 ga
  have f401 := f393.wr W399 (Or.inl (List.mem_of_getElem? (i := 0) rfl))
  have f402 := f394.wr W399
  have f403 := F387.other W399 (Or.inr (slot_ne (Or.inl (wd hw 77 rfl)) (Or.inr (wd hw 79 rfl)) (by decide) (t := .int) (t' := (.array (.object "java/lang/Object"))) (by decide) (by decide)))
  have f404 := f395.same W399
  have f405 := f396.other W399 (Or.inr (slot_ne (Or.inr (wd hw 81 rfl)) (Or.inr (wd hw 79 rfl)) (by decide) (t := .boolean) (t' := (.array (.object "java/lang/Object"))) (by decide) (by decide)))
  have f406 := f397.other W399 (Or.inr (slot_ne (Or.inr (wd hw 83 rfl)) (Or.inr (wd hw 79 rfl)) (by decide) (t := (.object "com/example/strictwire/strictwire/WireType")) (t' := (.array (.object "java/lang/Object"))) (by decide) (by decide)))
  refine g_aloadN C (pc' := 10) d10_9 rfl rfl rfl ?_
  refine g_iloadN C (pc' := 11) d10_10 rfl rfl ?_
  refine g_putFN C (pc' := 14) (v' := (.int (0 : Int32))) (ty := .boolean) (wd hw 80 rfl) Via.refl d10_11 rfl f405 f402 (Or.inr ⟨(wd hw 81 rfl), rfl, rfl⟩) (wd hw 71 rfl) (by decide) rfl rfl ga rfl (fun h407 W408 => ?_)
  have f409 := f400.wr W408 ga
  have f410 := f401.wr W408 (Or.inl (List.mem_of_getElem? (i := 0) rfl))
  have f411 := f402.wr W408
  have f412 := f403.other W408 (Or.inr (slot_ne (Or.inl (wd hw 77 rfl)) (Or.inr (wd hw 81 rfl)) (by decide) (t := .int) (t' := .boolean) (by decide) (by decide)))
  have f413 := f404.other W408 (Or.inr (slot_ne (Or.inr (wd hw 79 rfl)) (Or.inr (wd hw 81 rfl)) (by decide) (t := (.array (.object "java/lang/Object"))) (t' := .boolean) (by decide) (by decide)))
  have f414 := f405.same W408
  have f415 := f406.other W408 (Or.inr (slot_ne (Or.inr (wd hw 83 rfl)) (Or.inr (wd hw 81 rfl)) (by decide) (t := (.object "com/example/strictwire/strictwire/WireType")) (t' := .boolean) (by decide) (by decide)))
  refine g_aloadN C (pc' := 15) d10_14 rfl rfl rfl ?_
  refine g_aloadN C (pc' := 16) d10_15 rfl rfl rfl ?_
  refine g_putF C (pc' := 19) (ty := (.object "com/example/strictwire/strictwire/WireType")) (wd hw 82 rfl) Via.refl d10_16 rfl f415 f411 (Or.inr ⟨(wd hw 83 rfl), rfl, rfl⟩) (wd hw 71 rfl) (by decide) rfl rfl ga rfl (fun h416 W417 => ?_)
  have f418 := f409.wr W417 ga
  have f419 := f410.wr W417 (Or.inl (List.mem_of_getElem? (i := 0) rfl))
  have f420 := f411.wr W417
  have f421 := f412.other W417 (Or.inr (slot_ne (Or.inl (wd hw 77 rfl)) (Or.inr (wd hw 83 rfl)) (by decide) (t := .int) (t' := (.object "com/example/strictwire/strictwire/WireType")) (by decide) (by decide)))
  have f422 := f413.other W417 (Or.inr (slot_ne (Or.inr (wd hw 79 rfl)) (Or.inr (wd hw 83 rfl)) (by decide) (t := (.array (.object "java/lang/Object"))) (t' := (.object "com/example/strictwire/strictwire/WireType")) (by decide) (by decide)))
  have f423 := f414.other W417 (Or.inr (slot_ne (Or.inr (wd hw 81 rfl)) (Or.inr (wd hw 83 rfl)) (by decide) (t := .boolean) (t' := (.object "com/example/strictwire/strictwire/WireType")) (by decide) (by decide)))
  have f424 := f415.same W417
  exact g_return C d10_19 rfl (Nat.le_of_ble_eq_true rfl) (Nat.le_of_ble_eq_true rfl) (⟨rfl, f419, f420, f423⟩)
theorem d19_0 : decode prog_38_method_3_code 0 = .ok (.new 8, 3) := by decide +kernel
theorem d19_3 : decode prog_38_method_3_code 3 = .ok (.dup, 1) := by decide +kernel
theorem d19_4 : decode prog_38_method_3_code 4 = .ok (.aload_n 0, 1) := by decide +kernel
theorem d19_5 : decode prog_38_method_3_code 5 = .ok (.iconst 0, 1) := by decide +kernel
theorem d19_6 : decode prog_38_method_3_code 6 = .ok (.aload_n 1, 1) := by decide +kernel
theorem d19_7 : decode prog_38_method_3_code 7 = .ok (.invokespecial 21, 3) := by decide +kernel
theorem d19_10 : decode prog_38_method_3_code 10 = .ok (.areturn, 1) := by decide +kernel
set_option maxRecDepth 65536 in
set_option maxHeartbeats 40000000 in
theorem ofL_0 (l : Launch) (Z : State) (a0 : Array Value) (hw : ∀ d ∈ tables_1, d.before a0 Z = true) (n0 : Nat) (h : Heap) (O : Old Z n0 h) (s_I32 : Addr) (s_DEF : Addr) (s_EL : Addr) (s_EA : Addr) (mr : Addr) (H : En Z s_I32 s_DEF s_EL s_EA mr) (ar ty : Addr) : Con l Z (⟨"com/example/strictwire/strictwire/ValueList", "ofElements", "([Lcom/example/strictwire/strictwire/Value;Lcom/example/strictwire/strictwire/WireType;)Lcom/example/strictwire/strictwire/ValueList;"⟩ : MethodName) prog_38_method_3_code 2 (some (.object "com/example/strictwire/strictwire/ValueList")) ({ frames := 4, cells := 1, slots := 4, locals := 52 } : Room) #[(.ref ar), (.ref ty)] h n0 (fun v h' => ∃ b, v = some (.ref b) ∧ h.size ≤ b ∧ Keep h h' [] ∧ Exa Z h' b "com/example/strictwire/strictwire/ValueList" ∧ Fld Z h' b "com/example/strictwire/strictwire/ValueList" "distinctIds" "Z" (.int (0 : Int32))) := by
  refine Con.mk (Ls := #[.val (.ref ar), .val (.ref ty)]) (plainFor_of_name pn_2) (fun m => by first | (simp [entryFrame, mkF, argsToLocals, Value.category]; done) | rfl) (fun w C => ?_)
  replace C : Cx w l Z "com/example/strictwire/strictwire/ValueList" prog_38_method_3_code 2 (some (.object "com/example/strictwire/strictwire/ValueList")) "ofElements" ({ frames := 4, cells := 1, slots := 4, locals := 52 } : Room) n0 := C
  obtain ⟨S_I32, E_I32, S_DEF, E_DEF, V_DEF, S_EL, E_EL, F_EL, V_EA, MIR⟩ := id H
  obtain ⟨kD, V_DEF⟩ := V_DEF
  obtain ⟨kEA, V_EA⟩ := V_EA
  refine g_new C (pc' := 3) (k' := 1) (n' := 4) (wd hw 70 rfl) (wd hw 71 rfl) (wd hw 68 rfl) d19_0 (by decide) (by decide) rfl rfl rfl (fun h425 b426 ex427 E428 A429 D430 => ?_)
  have ge_b426 : n0 ≤ b426 := by rw [ex427]; exact O.1 ▸ O.2.1
  have sz_b426 : h.size ≤ b426 := by rw [ex427]; exact (Keep.refl h []).1
  have f431 := O.ext E428
  have f432 := (Keep.refl h []).ext E428
  have F_modCount_b426 : Fld Z h425 b426 "java/util/AbstractList" "modCount" "I" (.int (0 : Int32)) := D430 (Or.inl (wd hw 77 rfl)) (ty := .int) (by decide)
  have F_elements_b426 : Fld Z h425 b426 "com/example/strictwire/strictwire/ValueList" "elements" "[Ljava/lang/Object;" .null := D430 (Or.inr (wd hw 79 rfl)) (ty := (.array (.object "java/lang/Object"))) (by decide)
  have F_distinctIds_b426 : Fld Z h425 b426 "com/example/strictwire/strictwire/ValueList" "distinctIds" "Z" (.int (0 : Int32)) := D430 (Or.inr (wd hw 81 rfl)) (ty := .boolean) (by decide)
  have F_elementType_b426 : Fld Z h425 b426 "com/example/strictwire/strictwire/ValueList" "elementType" "Lcom/example/strictwire/strictwire/WireType;" .null := D430 (Or.inr (wd hw 83 rfl)) (ty := (.object "com/example/strictwire/strictwire/WireType")) (by decide)
  refine g_dup C (pc' := 4) d19_3 rfl rfl rfl ?_
  refine g_aloadN C (pc' := 5) d19_4 rfl rfl rfl ?_
  refine g_iconst C (pc' := 6) (v := (0 : Int32)) d19_5 (by decide) rfl ?_
  refine g_aloadN C (pc' := 7) d19_6 rfl rfl rfl ?_
  refine g_special C (pc' := 10) (k' := 1) (n' := 4) (argsL := [(.ref ar), (.int (0 : Int32)), (.ref ty)]) (rest := [(.ref b426)]) (wd hw 72 rfl) (wd hw 73 rfl) (wd hw 68 rfl) (wd hw 74 rfl) (by decide) rfl d19_7 pd_5 rfl rfl rfl (vlI_0 l Z a0 hw n0 h425 f431 s_I32 s_DEF s_EL s_EA mr H b426 ar ty ge_b426 A429 F_modCount_b426 F_elements_b426 F_distinctIds_b426 F_elementType_b426) (Nat.le_of_ble_eq_true rfl) (Nat.le_of_ble_eq_true rfl) (Nat.le_of_ble_eq_true rfl) (Nat.le_of_ble_eq_true rfl) rfl rfl rfl (fun v434 h433 q435 => ?_)
  obtain ⟨rfl, k1, k2, k3⟩ := q435
  have f436 := f431.keep k1 (allS ge_b426 all0)
  have f437 := f432.trans k1 (allS (Or.inr sz_b426) all0)
  have f438 := A429.keep k1
  show G w _ h433 1 4 10 #[.val (.ref ar), .val (.ref ty)] [(.ref b426)]
  exact g_areturn C d19_10 rfl rfl rfl rfl (Nat.le_of_ble_eq_true rfl) (Nat.le_of_ble_eq_true rfl) (⟨b426, rfl, sz_b426, f437, k2, k3⟩)
theorem d11_23 : decode prog_38_method_6_code 23 = .ok (.iconst 0, 1) := by decide +kernel
set_option maxRecDepth 65536 in
set_option maxHeartbeats 40000000 in
theorem hd_0 (l : Launch) (Z : State) (a0 : Array Value) (hw : ∀ d ∈ tables_1, d.before a0 Z = true) (n0 : Nat) (h : Heap) (O : Old Z n0 h) (s_I32 : Addr) (s_DEF : Addr) (s_EL : Addr) (s_EA : Addr) (mr : Addr) (H : En Z s_I32 s_DEF s_EL s_EA mr) (b : Addr) (E0 : Exa Z h b "com/example/strictwire/strictwire/ValueList") (F0 : Fld Z h b "com/example/strictwire/strictwire/ValueList" "distinctIds" "Z" (.int (0 : Int32))) : Con l Z (⟨"com/example/strictwire/strictwire/ValueList", "hasDistinctIds", "(Ljava/util/List;)Z"⟩ : MethodName) prog_38_method_6_code 2 (some .boolean) ({ frames := 0, cells := 0, slots := 0, locals := 0 } : Room) #[(.ref b)] h n0 (fun v h' => v = some (.int (0 : Int32)) ∧ h' = h) := by
  refine Con.mk (Ls := #[.val (.ref b), .unset]) (plainFor_of_name pn_2) (fun m => by first | (simp [entryFrame, mkF, argsToLocals, Value.category]; done) | rfl) (fun w C => ?_)
  replace C : Cx w l Z "com/example/strictwire/strictwire/ValueList" prog_38_method_6_code 2 (some .boolean) "hasDistinctIds" ({ frames := 0, cells := 0, slots := 0, locals := 0 } : Room) n0 := C
  obtain ⟨S_I32, E_I32, S_DEF, E_DEF, V_DEF, S_EL, E_EL, F_EL, V_EA, MIR⟩ := id H
  obtain ⟨kD, V_DEF⟩ := V_DEF
  obtain ⟨kEA, V_EA⟩ := V_EA
  refine g_aloadN C (pc' := 1) d11_0 rfl rfl rfl ?_
  refine g_instY C (pc' := 4) (wd hw 70 rfl) d11_1 rfl (Ins.self E0) rfl ?_
  refine g_ifN C (pc' := 7) d11_4 rfl (by decide) rfl ?_
  refine g_aloadN C (pc' := 8) d11_7 rfl rfl rfl ?_
  refine g_cast C (pc' := 11) (wd hw 70 rfl) d11_8 rfl (Ins.self E0) rfl ?_
  refine g_astoreN C (pc' := 12) (Ls' := #[.val (.ref b), .val (.ref b)]) d11_11 rfl rfl rfl rfl ?_
  refine g_aloadN C (pc' := 13) d11_12 rfl rfl rfl ?_
  refine g_getF C (pc' := 16) (wd hw 80 rfl) Via.refl d11_13 rfl F0 rfl ?_
  refine g_ifY C (pc' := 23) d11_16 rfl (by decide) (by decide) rfl ?_
  refine g_iconst C (pc' := 24) (v := (0 : Int32)) d11_23 (by decide) rfl ?_
  exact g_zreturn C d11_24 rfl rfl (Nat.le_of_ble_eq_true rfl) (Nat.le_of_ble_eq_true rfl) (⟨rfl, rfl⟩)
set_option maxRecDepth 65536 in
set_option maxHeartbeats 40000000 in
theorem hd_AL (l : Launch) (Z : State) (a0 : Array Value) (hw : ∀ d ∈ tables_1, d.before a0 Z = true) (n0 : Nat) (h : Heap) (O : Old Z n0 h) (s_I32 : Addr) (s_DEF : Addr) (s_EL : Addr) (s_EA : Addr) (mr : Addr) (H : En Z s_I32 s_DEF s_EL s_EA mr) (b : Addr) (E0 : Exa Z h b "java/util/ArrayList") : Con l Z (⟨"com/example/strictwire/strictwire/ValueList", "hasDistinctIds", "(Ljava/util/List;)Z"⟩ : MethodName) prog_38_method_6_code 2 (some .boolean) ({ frames := 0, cells := 0, slots := 0, locals := 0 } : Room) #[(.ref b)] h n0 (fun v h' => v = some (.int (0 : Int32)) ∧ h' = h) := by
  refine Con.mk (Ls := #[.val (.ref b), .unset]) (plainFor_of_name pn_2) (fun m => by first | (simp [entryFrame, mkF, argsToLocals, Value.category]; done) | rfl) (fun w C => ?_)
  replace C : Cx w l Z "com/example/strictwire/strictwire/ValueList" prog_38_method_6_code 2 (some .boolean) "hasDistinctIds" ({ frames := 0, cells := 0, slots := 0, locals := 0 } : Room) n0 := C
  obtain ⟨S_I32, E_I32, S_DEF, E_DEF, V_DEF, S_EL, E_EL, F_EL, V_EA, MIR⟩ := id H
  obtain ⟨kD, V_DEF⟩ := V_DEF
  obtain ⟨kEA, V_EA⟩ := V_EA
  refine g_aloadN C (pc' := 1) d11_0 rfl rfl rfl ?_
  refine g_instN C (pc' := 4) (wd hw 70 rfl) d11_1 rfl E0 (ns_no (wd hw 139 rfl) (wd hw 71 rfl) (NS.step (wd hw 139 rfl) (NS.step (wd hw 140 rfl) (NS.step (wd hw 141 rfl) (ns_root (wd hw 142 rfl) (wd hw 71 rfl) (by decide)) (by decide)) (by decide)) (by decide)) (by decide)) rfl ?_
  refine g_ifY C (pc' := 23) d11_4 rfl (by decide) (by decide) rfl ?_
  refine g_iconst C (pc' := 24) (v := (0 : Int32)) d11_23 (by decide) rfl ?_
  exact g_zreturn C d11_24 rfl rfl (Nat.le_of_ble_eq_true rfl) (Nat.le_of_ble_eq_true rfl) (⟨rfl, rfl⟩)
set_option maxRecDepth 65536 in
set_option maxHeartbeats 40000000 in
theorem hd_L12 (l : Launch) (Z : State) (a0 : Array Value) (hw : ∀ d ∈ tables_1, d.before a0 Z = true) (n0 : Nat) (h : Heap) (O : Old Z n0 h) (s_I32 : Addr) (s_DEF : Addr) (s_EL : Addr) (s_EA : Addr) (mr : Addr) (H : En Z s_I32 s_DEF s_EL s_EA mr) (b : Addr) (E0 : Exa Z h b "java/util/ImmutableCollections$List12") : Con l Z (⟨"com/example/strictwire/strictwire/ValueList", "hasDistinctIds", "(Ljava/util/List;)Z"⟩ : MethodName) prog_38_method_6_code 2 (some .boolean) ({ frames := 0, cells := 0, slots := 0, locals := 0 } : Room) #[(.ref b)] h n0 (fun v h' => v = some (.int (0 : Int32)) ∧ h' = h) := by
  refine Con.mk (Ls := #[.val (.ref b), .unset]) (plainFor_of_name pn_2) (fun m => by first | (simp [entryFrame, mkF, argsToLocals, Value.category]; done) | rfl) (fun w C => ?_)
  replace C : Cx w l Z "com/example/strictwire/strictwire/ValueList" prog_38_method_6_code 2 (some .boolean) "hasDistinctIds" ({ frames := 0, cells := 0, slots := 0, locals := 0 } : Room) n0 := C
  obtain ⟨S_I32, E_I32, S_DEF, E_DEF, V_DEF, S_EL, E_EL, F_EL, V_EA, MIR⟩ := id H
  obtain ⟨kD, V_DEF⟩ := V_DEF
  obtain ⟨kEA, V_EA⟩ := V_EA
  refine g_aloadN C (pc' := 1) d11_0 rfl rfl rfl ?_
  refine g_instN C (pc' := 4) (wd hw 70 rfl) d11_1 rfl E0 (ns_no (wd hw 223 rfl) (wd hw 71 rfl) (NS.step (wd hw 223 rfl) (NS.step (wd hw 224 rfl) (NS.step (wd hw 225 rfl) (NS.step (wd hw 141 rfl) (ns_root (wd hw 142 rfl) (wd hw 71 rfl) (by decide)) (by decide)) (by decide)) (by decide)) (by decide)) (by decide)) rfl ?_
  refine g_ifY C (pc' := 23) d11_4 rfl (by decide) (by decide) rfl ?_
  refine g_iconst C (pc' := 24) (v := (0 : Int32)) d11_23 (by decide) rfl ?_
  exact g_zreturn C d11_24 rfl rfl (Nat.le_of_ble_eq_true rfl) (Nat.le_of_ble_eq_true rfl) (⟨rfl, rfl⟩)
set_option maxRecDepth 65536 in
set_option maxHeartbeats 40000000 in
theorem hd_LN (l : Launch) (Z : State) (a0 : Array Value) (hw : ∀ d ∈ tables_1, d.before a0 Z = true) (n0 : Nat) (h : Heap) (O : Old Z n0 h) (s_I32 : Addr) (s_DEF : Addr) (s_EL : Addr) (s_EA : Addr) (mr : Addr) (H : En Z s_I32 s_DEF s_EL s_EA mr) (b : Addr) (E0 : Exa Z h b "java/util/ImmutableCollections$ListN") : Con l Z (⟨"com/example/strictwire/strictwire/ValueList", "hasDistinctIds", "(Ljava/util/List;)Z"⟩ : MethodName) prog_38_method_6_code 2 (some .boolean) ({ frames := 0, cells := 0, slots := 0, locals := 0 } : Room) #[(.ref b)] h n0 (fun v h' => v = some (.int (0 : Int32)) ∧ h' = h) := by
  refine Con.mk (Ls := #[.val (.ref b), .unset]) (plainFor_of_name pn_2) (fun m => by first | (simp [entryFrame, mkF, argsToLocals, Value.category]; done) | rfl) (fun w C => ?_)
  replace C : Cx w l Z "com/example/strictwire/strictwire/ValueList" prog_38_method_6_code 2 (some .boolean) "hasDistinctIds" ({ frames := 0, cells := 0, slots := 0, locals := 0 } : Room) n0 := C
  obtain ⟨S_I32, E_I32, S_DEF, E_DEF, V_DEF, S_EL, E_EL, F_EL, V_EA, MIR⟩ := id H
  obtain ⟨kD, V_DEF⟩ := V_DEF
  obtain ⟨kEA, V_EA⟩ := V_EA
  refine g_aloadN C (pc' := 1) d11_0 rfl rfl rfl ?_
  refine g_instN C (pc' := 4) (wd hw 70 rfl) d11_1 rfl E0 (ns_no (wd hw 230 rfl) (wd hw 71 rfl) (NS.step (wd hw 230 rfl) (NS.step (wd hw 224 rfl) (NS.step (wd hw 225 rfl) (NS.step (wd hw 141 rfl) (ns_root (wd hw 142 rfl) (wd hw 71 rfl) (by decide)) (by decide)) (by decide)) (by decide)) (by decide)) (by decide)) rfl ?_
  refine g_ifY C (pc' := 23) d11_4 rfl (by decide) (by decide) rfl ?_
  refine g_iconst C (pc' := 24) (v := (0 : Int32)) d11_23 (by decide) rfl ?_
  exact g_zreturn C d11_24 rfl rfl (Nat.le_of_ble_eq_true rfl) (Nat.le_of_ble_eq_true rfl) (⟨rfl, rfl⟩)
theorem d17_0 : decode prog_38_method_5_code 0 = .ok (.aload_n 0, 1) := by decide +kernel
theorem d17_1 : decode prog_38_method_5_code 1 = .ok (.instanceof 8, 3) := by decide +kernel
theorem d17_4 : decode prog_38_method_5_code 4 = .ok (.ifCond .eq 12, 3) := by decide +kernel
theorem d17_7 : decode prog_38_method_5_code 7 = .ok (.aload_n 0, 1) := by decide +kernel
theorem d17_8 : decode prog_38_method_5_code 8 = .ok (.checkcast 8, 3) := by decide +kernel
theorem d17_11 : decode prog_38_method_5_code 11 = .ok (.astore_n 1, 1) := by decide +kernel
theorem d17_12 : decode prog_38_method_5_code 12 = .ok (.aload_n 1, 1) := by decide +kernel
theorem d17_13 : decode prog_38_method_5_code 13 = .ok (.goto 7, 3) := by decide +kernel
theorem d17_20 : decode prog_38_method_5_code 20 = .ok (.areturn, 1) := by decide +kernel
set_option maxRecDepth 65536 in
set_option maxHeartbeats 40000000 in
theorem vco (l : Launch) (Z : State) (a0 : Array Value) (hw : ∀ d ∈ tables_1, d.before a0 Z = true) (n0 : Nat) (h : Heap) (O : Old Z n0 h) (s_I32 : Addr) (s_DEF : Addr) (s_EL : Addr) (s_EA : Addr) (mr : Addr) (H : En Z s_I32 s_DEF s_EL s_EA mr) (b : Addr) (E0 : Exa Z h b "com/example/strictwire/strictwire/ValueList") : Con l Z (⟨"com/example/strictwire/strictwire/ValueList", "copyOf", "(Ljava/util/List;)Ljava/util/List;"⟩ : MethodName) prog_38_method_5_code 2 (some (.object "java/util/List")) ({ frames := 0, cells := 0, slots := 0, locals := 0 } : Room) #[(.ref b)] h n0 (fun v h' => v = some (.ref b) ∧ h' = h) := by
  refine Con.mk (Ls := #[.val (.ref b), .unset]) (plainFor_of_name pn_2) (fun m => by first | (simp [entryFrame, mkF, argsToLocals, Value.category]; done) | rfl) (fun w C => ?_)
  replace C : Cx w l Z "com/example/strictwire/strictwire/ValueList" prog_38_method_5_code 2 (some (.object "java/util/List")) "copyOf" ({ frames := 0, cells := 0, slots := 0, locals := 0 } : Room) n0 := C
  obtain ⟨S_I32, E_I32, S_DEF, E_DEF, V_DEF, S_EL, E_EL, F_EL, V_EA, MIR⟩ := id H
  obtain ⟨kD, V_DEF⟩ := V_DEF
  obtain ⟨kEA, V_EA⟩ := V_EA
  refine g_aloadN C (pc' := 1) d17_0 rfl rfl rfl ?_
  refine g_instY C (pc' := 4) (wd hw 70 rfl) d17_1 rfl (Ins.self E0) rfl ?_
  refine g_ifN C (pc' := 7) d17_4 rfl (by decide) rfl ?_
  refine g_aloadN C (pc' := 8) d17_7 rfl rfl rfl ?_
  refine g_cast C (pc' := 11) (wd hw 70 rfl) d17_8 rfl (Ins.self E0) rfl ?_
  refine g_astoreN C (pc' := 12) (Ls' := #[.val (.ref b), .val (.ref b)]) d17_11 rfl rfl rfl rfl ?_
  refine g_aloadN C (pc' := 13) d17_12 rfl rfl rfl ?_
  refine g_goto C (pc' := 20) d17_13 (by decide) rfl ?_
  exact g_areturn C d17_20 rfl rfl rfl rfl (Nat.le_of_ble_eq_true rfl) (Nat.le_of_ble_eq_true rfl) (⟨rfl, rfl⟩)
theorem d17_16 : decode prog_38_method_5_code 16 = .ok (.aload_n 0, 1) := by decide +kernel
theorem d17_17 : decode prog_38_method_5_code 17 = .ok (.invokestatic 24, 3) := by decide +kernel
set_option maxRecDepth 65536 in
set_option maxHeartbeats 40000000 in
theorem vco_0 (l : Launch) (Z : State) (a0 : Array Value) (hw : ∀ d ∈ tables_1, d.before a0 Z = true) (n0 : Nat) (h : Heap) (O : Old Z n0 h) (s_I32 : Addr) (s_DEF : Addr) (s_EL : Addr) (s_EA : Addr) (mr : Addr) (H : En Z s_I32 s_DEF s_EL s_EA mr) (a : Addr) (mc : Int32) (P : AL0 Z n0 h a s_DEF mc) : Con l Z (⟨"com/example/strictwire/strictwire/ValueList", "copyOf", "(Ljava/util/List;)Ljava/util/List;"⟩ : MethodName) prog_38_method_5_code 2 (some (.object "java/util/List")) ({ frames := 3, cells := 0, slots := 0, locals := 37 } : Room) #[(.ref a)] h n0 (fun v h' => v = some (.ref s_EL) ∧ h' = h) := by
  refine Con.mk (Ls := #[.val (.ref a), .unset]) (plainFor_of_name pn_2) (fun m => by first | (simp [entryFrame, mkF, argsToLocals, Value.category]; done) | rfl) (fun w C => ?_)
  replace C : Cx w l Z "com/example/strictwire/strictwire/ValueList" prog_38_method_5_code 2 (some (.object "java/util/List")) "copyOf" ({ frames := 3, cells := 0, slots := 0, locals := 37 } : Room) n0 := C
  obtain ⟨S_I32, E_I32, S_DEF, E_DEF, V_DEF, S_EL, E_EL, F_EL, V_EA, MIR⟩ := id H
  obtain ⟨kD, V_DEF⟩ := V_DEF
  obtain ⟨kEA, V_EA⟩ := V_EA
  have P0 := P
  obtain ⟨ga, E0, F1, F2, F3⟩ := P
  refine g_aloadN C (pc' := 1) d17_0 rfl rfl rfl ?_
  refine g_instN C (pc' := 4) (wd hw 70 rfl) d17_1 rfl E0 (ns_no (wd hw 139 rfl) (wd hw 71 rfl) (NS.step (wd hw 139 rfl) (NS.step (wd hw 140 rfl) (NS.step (wd hw 141 rfl) (ns_root (wd hw 142 rfl) (wd hw 71 rfl) (by decide)) (by decide)) (by decide)) (by decide)) (by decide)) rfl ?_
  refine g_ifY C (pc' := 16) d17_4 rfl (by decide) (by decide) rfl ?_
  refine g_aloadN C (pc' := 17) d17_16 rfl rfl rfl ?_
  refine g_callS C (pc' := 20) (k' := 0) (n' := 0) (argsL := [(.ref a)]) (rest := []) (wd hw 143 rfl) (wd hw 144 rfl) (wd hw 145 rfl) (wd hw 146 rfl) (by decide) d17_17 pd_15 rfl rfl rfl (cpo_0 l Z a0 hw n0 h O s_I32 s_DEF s_EL s_EA mr H a mc  P0) (Nat.le_of_ble_eq_true rfl) (Nat.le_of_ble_eq_true rfl) (Nat.le_of_ble_eq_true rfl) (Nat.le_of_ble_eq_true rfl) rfl rfl rfl (fun v440 h439 q441 => ?_)
  obtain ⟨rfl, eh439⟩ := q441
  subst h439
  show G w _ h 0 0 20 #[.val (.ref a), .unset] [(.ref s_EL)]
  exact g_areturn C d17_20 rfl rfl rfl rfl (Nat.le_of_ble_eq_true rfl) (Nat.le_of_ble_eq_true rfl) (⟨rfl, rfl⟩)
set_option maxRecDepth 65536 in
set_option maxHeartbeats 40000000 in
theorem vco_2 (l : Launch) (Z : State) (a0 : Array Value) (hw : ∀ d ∈ tables_1, d.before a0 Z = true) (n0 : Nat) (h : Heap) (O : Old Z n0 h) (s_I32 : Addr) (s_DEF : Addr) (s_EL : Addr) (s_EA : Addr) (mr : Addr) (H : En Z s_I32 s_DEF s_EL s_EA mr) (a ed : Addr) (kE : ClassId) (mc : Int32) (x0 x1 : Addr) (Ex0 : Exa Z h x0 "com/example/strictwire/strictwire/Field") (Ex1 : Exa Z h x1 "com/example/strictwire/strictwire/Field") (P : AL1 Z n0 h a ed kE mc (2 : Int32) [(.ref x0), (.ref x1), .null, .null, .null, .null, .null, .null, .null, .null]) : Con l Z (⟨"com/example/strictwire/strictwire/ValueList", "copyOf", "(Ljava/util/List;)Ljava/util/List;"⟩ : MethodName) prog_38_method_5_code 2 (some (.object "java/util/List")) ({ frames := 8, cells := 2, slots := 4, locals := 101 } : Room) #[(.ref a)] h n0 (fun v h' => ∃ L, v = some (.ref L) ∧ h.size ≤ L ∧ Keep h h' [] ∧ Exa Z h' L "java/util/ImmutableCollections$List12") := by
  refine Con.mk (Ls := #[.val (.ref a), .unset]) (plainFor_of_name pn_2) (fun m => by first | (simp [entryFrame, mkF, argsToLocals, Value.category]; done) | rfl) (fun w C => ?_)
  replace C : Cx w l Z "com/example/strictwire/strictwire/ValueList" prog_38_method_5_code 2 (some (.object "java/util/List")) "copyOf" ({ frames := 8, cells := 2, slots := 4, locals := 101 } : Room) n0 := C
  obtain ⟨S_I32, E_I32, S_DEF, E_DEF, V_DEF, S_EL, E_EL, F_EL, V_EA, MIR⟩ := id H
  obtain ⟨kD, V_DEF⟩ := V_DEF
  obtain ⟨kEA, V_EA⟩ := V_EA
  have P0 := P
  obtain ⟨ga, ge, nae, Ov, E0, Ee, F1, F2, F3, A1⟩ := P
  refine g_aloadN C (pc' := 1) d17_0 rfl rfl rfl ?_
  refine g_instN C (pc' := 4) (wd hw 70 rfl) d17_1 rfl E0 (ns_no (wd hw 139 rfl) (wd hw 71 rfl) (NS.step (wd hw 139 rfl) (NS.step (wd hw 140 rfl) (NS.step (wd hw 141 rfl) (ns_root (wd hw 142 rfl) (wd hw 71 rfl) (by decide)) (by decide)) (by decide)) (by decide)) (by decide)) rfl ?_
  refine g_ifY C (pc' := 16) d17_4 rfl (by decide) (by decide) rfl ?_
  refine g_aloadN C (pc' := 17) d17_16 rfl rfl rfl ?_
  refine g_callS C (pc' := 20) (k' := 2) (n' := 4) (argsL := [(.ref a)]) (rest := []) (wd hw 143 rfl) (wd hw 144 rfl) (wd hw 145 rfl) (wd hw 146 rfl) (by decide) d17_17 pd_15 rfl rfl rfl (cpo_2 l Z a0 hw n0 h O s_I32 s_DEF s_EL s_EA mr H a ed kE mc x0 x1 Ex0 Ex1 P0) (Nat.le_of_ble_eq_true rfl) (Nat.le_of_ble_eq_true rfl) (Nat.le_of_ble_eq_true rfl) (Nat.le_of_ble_eq_true rfl) rfl rfl rfl (fun v443 h442 q444 => ?_)
  obtain ⟨L, rfl, q1, q2, q3⟩ := q444
  show G w _ h442 2 4 20 #[.val (.ref a), .unset] [(.ref L)]
  exact g_areturn C d17_20 rfl rfl rfl rfl (Nat.le_of_ble_eq_true rfl) (Nat.le_of_ble_eq_true rfl) (⟨L, rfl, q1, q2, q3⟩)
theorem d18_0 : decode prog_15_method_2_code 0 = .ok (.getstatic 13, 3) := by decide +kernel
theorem d18_3 : decode prog_15_method_2_code 3 = .ok (.areturn, 1) := by decide +kernel
set_option maxRecDepth 65536 in
set_option maxHeartbeats 40000000 in
theorem typ (l : Launch) (Z : State) (a0 : Array Value) (hw : ∀ d ∈ tables_1, d.before a0 Z = true) (n0 : Nat) (h : Heap) (O : Old Z n0 h) (s_I32 : Addr) (s_DEF : Addr) (s_EL : Addr) (s_EA : Addr) (mr : Addr) (H : En Z s_I32 s_DEF s_EL s_EA mr) (a : Addr) : Con l Z (⟨"com/example/strictwire/strictwire/I32Value", "type", "()Lcom/example/strictwire/strictwire/WireType;"⟩ : MethodName) prog_15_method_2_code 1 (some (.object "com/example/strictwire/strictwire/WireType")) ({ frames := 0, cells := 0, slots := 0, locals := 0 } : Room) #[(.ref a)] h n0 (fun v h' => v = some (.ref s_I32) ∧ h' = h) := by
  refine Con.mk (Ls := #[.val (.ref a)]) (plainFor_of_name pn_1) (fun m => by first | (simp [entryFrame, mkF, argsToLocals, Value.category]; done) | rfl) (fun w C => ?_)
  replace C : Cx w l Z "com/example/strictwire/strictwire/I32Value" prog_15_method_2_code 1 (some (.object "com/example/strictwire/strictwire/WireType")) "type" ({ frames := 0, cells := 0, slots := 0, locals := 0 } : Room) n0 := C
  obtain ⟨S_I32, E_I32, S_DEF, E_DEF, V_DEF, S_EL, E_EL, F_EL, V_EA, MIR⟩ := id H
  refine g_getS C (pc' := 3) (wd hw 133 rfl) Via.refl d18_0 (S_I32.ext O.2) rfl ?_
  exact g_areturn C d18_3 rfl rfl rfl rfl (Nat.le_of_ble_eq_true rfl) (Nat.le_of_ble_eq_true rfl) (⟨rfl, rfl⟩)
def LQ : Option Value → Heap → Prop := fun v _ => v = some (.int (1 : Int32))
theorem pd_0 : parseMethodDescriptor "(I)V" = some ⟨[.int], none⟩ := by decide +kernel
theorem pd_2 : parseMethodDescriptor "(SLcom/example/strictwire/strictwire/Value;)V" = some ⟨[.short, (.object "com/example/strictwire/strictwire/Value")], none⟩ := by decide +kernel
theorem pd_4 : parseMethodDescriptor "([Lcom/example/strictwire/strictwire/Field;)Lcom/example/strictwire/strictwire/ValueList;" = some ⟨[(.array (.object "com/example/strictwire/strictwire/Field"))], some (.object "com/example/strictwire/strictwire/ValueList")⟩ := by decide +kernel
theorem pd_6 : parseMethodDescriptor "(Ljava/util/List;)Z" = some ⟨[(.object "java/util/List")], some .boolean⟩ := by decide +kernel
theorem pd_13 : parseMethodDescriptor "()Lcom/example/strictwire/strictwire/WireType;" = some ⟨[], some (.object "com/example/strictwire/strictwire/WireType")⟩ := by decide +kernel
theorem pd_14 : parseMethodDescriptor "([Lcom/example/strictwire/strictwire/Value;Lcom/example/strictwire/strictwire/WireType;)Lcom/example/strictwire/strictwire/ValueList;" = some ⟨[(.array (.object "com/example/strictwire/strictwire/Value")), (.object "com/example/strictwire/strictwire/WireType")], some (.object "com/example/strictwire/strictwire/ValueList")⟩ := by decide +kernel
theorem pd_12 : parseMethodDescriptor "(Ljava/util/List;)Ljava/util/List;" = some ⟨[(.object "java/util/List")], some (.object "java/util/List")⟩ := by decide +kernel
theorem pd_7 : parseMethodDescriptor "(Ljava/lang/Object;)Z" = some ⟨[(.object "java/lang/Object")], some .boolean⟩ := by decide +kernel
theorem pn_3 : plainName "com/example/strictwire/strictwire/ValueListHasDistinctIdsPinLaw" = true := by first | (simp [plainName, overriddenIn]; done) | decide +kernel
set_option maxRecDepth 65536 in
set_option maxHeartbeats 40000000 in
theorem rm0 (l : Launch) (Z : State) (a0 : Array Value) (hw : ∀ d ∈ tables_1, d.before a0 Z = true) (n0 : Nat) (h : Heap) (O : Old Z n0 h) (s_I32 : Addr) (s_DEF : Addr) (s_EL : Addr) (s_EA : Addr) (mr : Addr) (H : En Z s_I32 s_DEF s_EL s_EA mr) (p0 : Int32) (p1 : Int32) (p2 : Int32) (p3 : Int32) (p4 : Int32) : ConW l Z x code maxLocals ret room_1 #[(.int p0), (.int p1), (.int p2), (.int p3), (.int p4)] h n0 (LQ) := by
  refine ConW.mk (Ls := #[.val (.int p0), .val (.int p1), .val (.int p2), .val (.int p3), .val (.int p4), .unset, .unset, .unset, .unset, .unset, .unset, .unset, .unset, .unset, .unset, .unset, .unset]) (plainFor_of_name pn_3) (fun m => by first | (simp [entryFrame, mkF, argsToLocals, Value.category, maxLocals]; done) | rfl) (fun w C WD => ?_)
  replace C : Cx w l Z "com/example/strictwire/strictwire/ValueListHasDistinctIdsPinLaw" code 17 (some .boolean) "law" room_1 n0 := C
  obtain ⟨S_I32, E_I32, S_DEF, E_DEF, V_DEF, S_EL, E_EL, F_EL, V_EA, MIR⟩ := id H
  obtain ⟨kD, V_DEF⟩ := V_DEF
  refine g_iloadN C (pc' := 1) at_0 rfl rfl ?_
  refine g_i2s C (pc' := 2) at_1 rfl rfl ?_
  refine g_istore C (pc' := 4) (Ls' := #[.val (.int p0), .val (.int p1), .val (.int p2), .val (.int p3), .val (.int p4), .val (.int p1.toInt16.toInt32), .unset, .unset, .unset, .unset, .unset, .unset, .unset, .unset, .unset, .unset, .unset]) at_2 rfl rfl rfl ?_
  refine g_iloadN C (pc' := 5) at_4 rfl rfl ?_
  refine g_i2s C (pc' := 6) at_5 rfl rfl ?_
  refine g_istore C (pc' := 8) (Ls' := #[.val (.int p0), .val (.int p1), .val (.int p2), .val (.int p3), .val (.int p4), .val (.int p1.toInt16.toInt32), .val (.int p2.toInt16.toInt32), .unset, .unset, .unset, .unset, .unset, .unset, .unset, .unset, .unset, .unset]) at_6 rfl rfl rfl ?_
  have J22 : ∀ (b : Int32), G w LQ h 0 0 22 #[.val (.int p0), .val (.int p1), .val (.int p2), .val (.int p3), .val (.int p4), .val (.int p1.toInt16.toInt32), .val (.int b), .unset, .unset, .unset, .unset, .unset, .unset, .unset, .unset, .unset, .unset] [] := by
    intro b
    refine g_iload C (pc' := 24) at_22 rfl rfl ?_
    refine g_iconst C (pc' := 25) (v := (1 : Int32)) at_24 (by decide) rfl ?_
    refine g_iand C (pc' := 26) at_25 rfl rfl ?_
    rcases own_and1 p4 with e1 | e1
    · rw [e1]
      refine g_ifY C (pc' := 33) at_26 rfl (by decide) (by decide) rfl ?_
      refine g_iconst C (pc' := 34) (v := (0 : Int32)) at_33 (by decide) rfl ?_
      refine g_istore C (pc' := 36) (Ls' := #[.val (.int p0), .val (.int p1), .val (.int p2), .val (.int p3), .val (.int p4), .val (.int p1.toInt16.toInt32), .val (.int b), .val (.int (0 : Int32)), .unset, .unset, .unset, .unset, .unset, .unset, .unset, .unset, .unset]) at_34 rfl rfl rfl ?_
      refine g_new C (pc' := 39) (k' := 1) (n' := 1) (wd hw 0 rfl) (wd hw 1 rfl) (wd hw 2 rfl) at_36 (by decide) (by decide) rfl rfl rfl (fun h445 b446 ex447 E448 A449 D450 => ?_)
      have ge_b446 : n0 ≤ b446 := by rw [ex447]; exact O.1 ▸ O.2.1
      have f451 := O.ext E448
      have F_value_b446 : Fld Z h445 b446 "com/example/strictwire/strictwire/I32Value" "value" "I" (.int (0 : Int32)) := D450 (Or.inr (wd hw 15 rfl)) (ty := .int) (by decide)
      refine g_dup C (pc' := 40) at_39 rfl rfl rfl ?_
      refine g_iloadN C (pc' := 41) at_40 rfl rfl ?_
      refine g_special C (pc' := 44) (k' := 1) (n' := 1) (argsL := [(.int p3)]) (rest := [(.ref b446)]) (wd hw 3 rfl) (wd hw 4 rfl) (wd hw 2 rfl) (wd hw 5 rfl) (by decide) rfl at_41 pd_0 rfl rfl rfl (ivI l Z a0 hw n0 h445 f451 s_I32 s_DEF s_EL s_EA mr H b446 p3 ge_b446 A449 F_value_b446) (Nat.le_of_ble_eq_true rfl) (Nat.le_of_ble_eq_true rfl) (Nat.le_of_ble_eq_true rfl) (Nat.le_of_ble_eq_true rfl) rfl rfl rfl (fun v454 h453 q455 => ?_)
      obtain ⟨rfl, K452⟩ := q455
      have f456 := f451.keep K452 (allS ge_b446 all0)
      have f457 := A449.keep K452
      show G w _ h453 1 1 44 #[.val (.int p0), .val (.int p1), .val (.int p2), .val (.int p3), .val (.int p4), .val (.int p1.toInt16.toInt32), .val (.int b), .val (.int (0 : Int32)), .unset, .unset, .unset, .unset, .unset, .unset, .unset, .unset, .unset] [(.ref b446)]
      refine g_astore C (pc' := 46) (Ls' := #[.val (.int p0), .val (.int p1), .val (.int p2), .val (.int p3), .val (.int p4), .val (.int p1.toInt16.toInt32), .val (.int b), .val (.int (0 : Int32)), .val (.ref b446), .unset, .unset, .unset, .unset, .unset, .unset, .unset, .unset]) at_44 rfl rfl rfl rfl ?_
      refine g_new C (pc' := 49) (k' := 2) (n' := 3) (wd hw 16 rfl) (wd hw 17 rfl) (wd hw 18 rfl) at_46 (by decide) (by decide) rfl rfl rfl (fun h458 b459 ex460 E461 A462 D463 => ?_)
      have ne_b446_b459 : b446 ≠ b459 := Nat.ne_of_lt (by rw [ex460]; exact f457.lt)
      have ge_b459 : n0 ≤ b459 := by rw [ex460]; exact f456.1 ▸ f456.2.1
      have f464 := f456.ext E461
      have f465 := f457.ext E461
      have F_id_b459 : Fld Z h458 b459 "com/example/strictwire/strictwire/Field" "id" "S" (.int (0 : Int32)) := D463 (Or.inr (wd hw 36 rfl)) (ty := .short) (by decide)
      have F_value_b459 : Fld Z h458 b459 "com/example/strictwire/strictwire/Field" "value" "Lcom/example/strictwire/strictwire/Value;" .null := D463 (Or.inr (wd hw 38 rfl)) (ty := (.object "com/example/strictwire/strictwire/Value")) (by decide)
      refine g_dup C (pc' := 50) at_49 rfl rfl rfl ?_
      refine g_iload C (pc' := 52) at_50 rfl rfl ?_
      refine g_aload C (pc' := 54) at_52 rfl rfl rfl ?_
      refine g_specialW C WD (pc' := 57) (k' := 4) (n' := 27) (argsL := [(.int p1.toInt16.toInt32), (.ref b446)]) (rest := [(.ref b459)]) (wd hw 19 rfl) (wd hw 20 rfl) (wd hw 18 rfl) (wd hw 21 rfl) (by decide) rfl at_54 pd_2 rfl rfl rfl (fiI l Z a0 hw n0 h458 f464 s_I32 s_DEF s_EL s_EA mr H b459 b446 p1.toInt16.toInt32 ge_b459 A462 F_id_b459 F_value_b459) (Nat.le_of_ble_eq_true rfl) (Nat.le_of_ble_eq_true rfl) (Nat.le_of_ble_eq_true rfl) (Nat.le_of_ble_eq_true rfl) rfl rfl rfl (fun w v468 h467 C WD q469 => ?_)
      obtain ⟨rfl, K466⟩ := q469
      have f470 := f464.keep K466 (allS ge_b459 all0)
      have f471 := f465.keep K466
      have f472 := A462.keep K466
      have sz473 : h467.size ≤ h467.size := Nat.le_refl _
      show G w _ h467 4 27 57 #[.val (.int p0), .val (.int p1), .val (.int p2), .val (.int p3), .val (.int p4), .val (.int p1.toInt16.toInt32), .val (.int b), .val (.int (0 : Int32)), .val (.ref b446), .unset, .unset, .unset, .unset, .unset, .unset, .unset, .unset] [(.ref b459)]
      refine g_astore C (pc' := 59) (Ls' := #[.val (.int p0), .val (.int p1), .val (.int p2), .val (.int p3), .val (.int p4), .val (.int p1.toInt16.toInt32), .val (.int b), .val (.int (0 : Int32)), .val (.ref b446), .val (.ref b459), .unset, .unset, .unset, .unset, .unset, .unset, .unset]) at_57 rfl rfl rfl rfl ?_
      refine g_new C (pc' := 62) (k' := 5) (n' := 29) (wd hw 16 rfl) (wd hw 17 rfl) (wd hw 18 rfl) at_59 (by decide) (by decide) rfl rfl rfl (fun h474 b475 ex476 E477 A478 D479 => ?_)
      have ne_b446_b475 : b446 ≠ b475 := Nat.ne_of_lt (by rw [ex476]; exact f471.lt)
      have ne_b459_b475 : b459 ≠ b475 := Nat.ne_of_lt (by rw [ex476]; exact f472.lt)
      have ge_b475 : n0 ≤ b475 := by rw [ex476]; exact f470.1 ▸ f470.2.1
      have f480 := f470.ext E477
      have f481 := f471.ext E477
      have f482 := f472.ext E477
      have f483 := Nat.le_trans sz473 E477.1
      have F_id_b475 : Fld Z h474 b475 "com/example/strictwire/strictwire/Field" "id" "S" (.int (0 : Int32)) := D479 (Or.inr (wd hw 36 rfl)) (ty := .short) (by decide)
      have F_value_b475 : Fld Z h474 b475 "com/example/strictwire/strictwire/Field" "value" "Lcom/example/strictwire/strictwire/Value;" .null := D479 (Or.inr (wd hw 38 rfl)) (ty := (.object "com/example/strictwire/strictwire/Value")) (by decide)
      refine g_dup C (pc' := 63) at_62 rfl rfl rfl ?_
      refine g_iload C (pc' := 65) at_63 rfl rfl ?_
      refine g_aload C (pc' := 67) at_65 rfl rfl rfl ?_
      refine g_specialW C WD (pc' := 70) (k' := 7) (n' := 53) (argsL := [(.int b), (.ref b446)]) (rest := [(.ref b475)]) (wd hw 19 rfl) (wd hw 20 rfl) (wd hw 18 rfl) (wd hw 21 rfl) (by decide) rfl at_67 pd_2 rfl rfl rfl (fiI l Z a0 hw n0 h474 f480 s_I32 s_DEF s_EL s_EA mr H b475 b446 b ge_b475 A478 F_id_b475 F_value_b475) (Nat.le_of_ble_eq_true rfl) (Nat.le_of_ble_eq_true rfl) (Nat.le_of_ble_eq_true rfl) (Nat.le_of_ble_eq_true rfl) rfl rfl rfl (fun w v486 h485 C WD q487 => ?_)
      obtain ⟨rfl, K484⟩ := q487
      have f488 := f480.keep K484 (allS ge_b475 all0)
      have f489 := f481.keep K484
      have f490 := f482.keep K484
      have f491 := Nat.le_trans f483 K484.1
      have f492 := A478.keep K484
      have sz493 : h485.size ≤ h485.size := Nat.le_refl _
      show G w _ h485 7 53 70 #[.val (.int p0), .val (.int p1), .val (.int p2), .val (.int p3), .val (.int p4), .val (.int p1.toInt16.toInt32), .val (.int b), .val (.int (0 : Int32)), .val (.ref b446), .val (.ref b459), .unset, .unset, .unset, .unset, .unset, .unset, .unset] [(.ref b475)]
      refine g_astore C (pc' := 72) (Ls' := #[.val (.int p0), .val (.int p1), .val (.int p2), .val (.int p3), .val (.int p4), .val (.int p1.toInt16.toInt32), .val (.int b), .val (.int (0 : Int32)), .val (.ref b446), .val (.ref b459), .val (.ref b475), .unset, .unset, .unset, .unset, .unset, .unset]) at_70 rfl rfl rfl rfl ?_
      refine g_iload C (pc' := 74) at_72 rfl rfl ?_
      refine g_ifY C (pc' := 94) at_74 rfl (by decide) (by decide) rfl ?_
      refine g_iconst C (pc' := 95) (v := (0 : Int32)) at_94 (by decide) rfl ?_
      refine g_newRE C (pc' := 98) (k' := 8) (n' := 53) (cap := 0) (ad := "[Lcom/example/strictwire/strictwire/Field;") (wd hw 16 rfl) (wd hw 39 rfl) (by decide) at_95 rfl (by decide) (by decide) (by decide) (by decide) (by decide) rfl rfl rfl (fun h494 b495 kA496 ex497 E498 A499 B501 Ov500 => ?_)
      have ne_b446_b495 : b446 ≠ b495 := Nat.ne_of_lt (by rw [ex497]; exact f489.lt)
      have ne_b459_b495 : b459 ≠ b495 := Nat.ne_of_lt (by rw [ex497]; exact f490.lt)
      have ne_b475_b495 : b475 ≠ b495 := Nat.ne_of_lt (by rw [ex497]; exact f492.lt)
      have ge_b495 : n0 ≤ b495 := by rw [ex497]; exact f488.1 ▸ f488.2.1
      have f502 := f488.ext E498
      have f503 := f489.ext E498
      have f504 := f490.ext E498
      have f505 := Nat.le_trans f491 E498.1
      have f506 := f492.ext E498
      have f507 := Nat.le_trans sz493 E498.1
      refine g_astore C (pc' := 100) (Ls' := #[.val (.int p0), .val (.int p1), .val (.int p2), .val (.int p3), .val (.int p4), .val (.int p1.toInt16.toInt32), .val (.int b), .val (.int (0 : Int32)), .val (.ref b446), .val (.ref b459), .val (.ref b475), .val (.ref b495), .unset, .unset, .unset, .unset, .unset]) at_98 rfl rfl rfl rfl ?_
      refine g_new C (pc' := 103) (k' := 9) (n' := 56) (wd hw 40 rfl) (wd hw 41 rfl) (wd hw 42 rfl) at_100 (by decide) (by decide) rfl rfl rfl (fun h508 b509 ex510 E511 A512 D513 => ?_)
      have ne_b446_b509 : b446 ≠ b509 := Nat.ne_of_lt (by rw [ex510]; exact f503.lt)
      have ne_b459_b509 : b459 ≠ b509 := Nat.ne_of_lt (by rw [ex510]; exact f504.lt)
      have ne_b475_b509 : b475 ≠ b509 := Nat.ne_of_lt (by rw [ex510]; exact f506.lt)
      have ne_b495_b509 : b495 ≠ b509 := Nat.ne_of_lt (by rw [ex510]; exact A499.lt)
      have ge_b509 : n0 ≤ b509 := by rw [ex510]; exact f502.1 ▸ f502.2.1
      have f514 := f502.ext E511
      have f515 := f503.ext E511
      have f516 := f504.ext E511
      have f517 := Nat.le_trans f505 E511.1
      have f518 := f506.ext E511
      have f519 := Nat.le_trans f507 E511.1
      have f520 := A499.ext E511
      have f521 := B501.ext E511
      have F_modCount_b509 : Fld Z h508 b509 "java/util/AbstractList" "modCount" "I" (.int (0 : Int32)) := D513 (Or.inl (wd hw 60 rfl)) (ty := .int) (by decide)
      have F_elementData_b509 : Fld Z h508 b509 "java/util/ArrayList" "elementData" "[Ljava/lang/Object;" .null := D513 (Or.inl (wd hw 63 rfl)) (ty := (.array (.object "java/lang/Object"))) (by decide)
      have F_size_b509 : Fld Z h508 b509 "java/util/ArrayList" "size" "I" (.int (0 : Int32)) := D513 (Or.inl (wd hw 101 rfl)) (ty := .int) (by decide)
      refine g_dup C (pc' := 104) at_103 rfl rfl rfl ?_
      refine g_special C (pc' := 107) (k' := 9) (n' := 56) (argsL := []) (rest := [(.ref b509)]) (wd hw 43 rfl) (wd hw 44 rfl) (wd hw 42 rfl) (wd hw 45 rfl) (by decide) rfl at_104 pd_1 rfl rfl rfl (al_init l Z a0 hw n0 h508 f514 s_I32 s_DEF s_EL s_EA mr H b509 ge_b509 A512 F_modCount_b509 F_elementData_b509 F_size_b509) (Nat.le_of_ble_eq_true rfl) (Nat.le_of_ble_eq_true rfl) (Nat.le_of_ble_eq_true rfl) (Nat.le_of_ble_eq_true rfl) rfl rfl rfl (fun v525 h524 q526 => ?_)
      obtain ⟨rfl, K522, P523⟩ := q526
      have f527 := f514.keep K522 (allS ge_b509 all0)
      have f528 := f515.keep K522
      have f529 := f516.keep K522
      have f530 := Nat.le_trans f517 K522.1
      have f531 := f518.keep K522
      have f532 := Nat.le_trans f519 K522.1
      have f533 := f520.keep K522 (ninS ne_b495_b509 nin0)
      have f534 := f521.keep K522
      have f535 := A512.keep K522
      show G w _ h524 9 56 107 #[.val (.int p0), .val (.int p1), .val (.int p2), .val (.int p3), .val (.int p4), .val (.int p1.toInt16.toInt32), .val (.int b), .val (.int (0 : Int32)), .val (.ref b446), .val (.ref b459), .val (.ref b475), .val (.ref b495), .unset, .unset, .unset, .unset, .unset] [(.ref b509)]
      refine g_astore C (pc' := 109) (Ls' := #[.val (.int p0), .val (.int p1), .val (.int p2), .val (.int p3), .val (.int p4), .val (.int p1.toInt16.toInt32), .val (.int b), .val (.int (0 : Int32)), .val (.ref b446), .val (.ref b459), .val (.ref b475), .val (.ref b495), .val (.ref b509), .unset, .unset, .unset, .unset]) at_107 rfl rfl rfl rfl ?_
      refine g_iload C (pc' := 111) at_109 rfl rfl ?_
      refine g_ifY C (pc' := 134) at_111 rfl (by decide) (by decide) rfl ?_
      refine g_iload C (pc' := 136) at_134 rfl rfl ?_
      refine g_ifY C (pc' := 156) at_136 rfl (by decide) (by decide) rfl ?_
      refine g_iconst C (pc' := 157) (v := (0 : Int32)) at_156 (by decide) rfl ?_
      refine g_newRE C (pc' := 160) (k' := 10) (n' := 56) (cap := 0) (ad := "[Lcom/example/strictwire/strictwire/I32Value;") (wd hw 0 rfl) (wd hw 64 rfl) (by decide) at_157 rfl (by decide) (by decide) (by decide) (by decide) (by decide) rfl rfl rfl (fun h536 b537 kA538 ex539 E540 A541 B543 Ov542 => ?_)
      have ne_b446_b537 : b446 ≠ b537 := Nat.ne_of_lt (by rw [ex539]; exact f528.lt)
      have ne_b459_b537 : b459 ≠ b537 := Nat.ne_of_lt (by rw [ex539]; exact f529.lt)
      have ne_b475_b537 : b475 ≠ b537 := Nat.ne_of_lt (by rw [ex539]; exact f531.lt)
      have ne_b495_b537 : b495 ≠ b537 := Nat.ne_of_lt (by rw [ex539]; exact f533.lt)
      have ne_b509_b537 : b509 ≠ b537 := Nat.ne_of_lt (by rw [ex539]; exact f535.lt)
      have ge_b537 : n0 ≤ b537 := by rw [ex539]; exact f527.1 ▸ f527.2.1
      have f544 := f527.ext E540
      have f545 := f528.ext E540
      have f546 := f529.ext E540
      have f547 := Nat.le_trans f530 E540.1
      have f548 := f531.ext E540
      have f549 := Nat.le_trans f532 E540.1
      have f550 := f533.ext E540
      have f551 := f534.ext E540
      have f552 := f535.ext E540
      have f553 := own_AL0_ext P523 E540
      refine g_astore C (pc' := 162) (Ls' := #[.val (.int p0), .val (.int p1), .val (.int p2), .val (.int p3), .val (.int p4), .val (.int p1.toInt16.toInt32), .val (.int b), .val (.int (0 : Int32)), .val (.ref b446), .val (.ref b459), .val (.ref b475), .val (.ref b495), .val (.ref b509), .val (.ref b537), .unset, .unset, .unset]) at_160 rfl rfl rfl rfl ?_
      refine g_iloadN C (pc' := 163) at_162 rfl rfl ?_
      refine g_ldcInt C (pc' := 165) (wd hw 65 rfl) at_163 rfl ?_
      refine g_iand C (pc' := 166) at_165 rfl rfl ?_
      refine g_iconst C (pc' := 167) (v := (5 : Int32)) at_166 (by decide) rfl ?_
      refine g_irem C (pc' := 168) at_167 rfl (by decide) rfl ?_
      rcases own_mod5 p0 with e5 | e5 | e5 | e5 | e5
      · rw [e5]
        refine g_istore C (pc' := 170) (Ls' := #[.val (.int p0), .val (.int p1), .val (.int p2), .val (.int p3), .val (.int p4), .val (.int p1.toInt16.toInt32), .val (.int b), .val (.int (0 : Int32)), .val (.ref b446), .val (.ref b459), .val (.ref b475), .val (.ref b495), .val (.ref b509), .val (.ref b537), .val (.int (0 : Int32)), .unset, .unset]) at_168 rfl rfl rfl ?_
        refine g_iload C (pc' := 172) at_170 rfl rfl ?_
        refine g_ifN C (pc' := 175) at_172 rfl (by decide) rfl ?_
        refine g_aload C (pc' := 177) at_175 rfl rfl rfl ?_
        refine g_callS C (pc' := 180) (k' := 11) (n' := 60) (argsL := [(.ref b495)]) (rest := []) (wd hw 66 rfl) (wd hw 67 rfl) (wd hw 68 rfl) (wd hw 69 rfl) (by decide) at_177 pd_4 rfl rfl rfl (ofL_1 l Z a0 hw n0 h536 f544 s_I32 s_DEF s_EL s_EA mr H b495) (Nat.le_of_ble_eq_true rfl) (Nat.le_of_ble_eq_true rfl) (Nat.le_of_ble_eq_true rfl) (Nat.le_of_ble_eq_true rfl) rfl rfl rfl (fun v560 h559 q561 => ?_)
        obtain ⟨vl554, rfl, q555, q556, q557, q558⟩ := q561
        have ne_b446_vl554 : b446 ≠ vl554 := Nat.ne_of_lt (Nat.lt_of_lt_of_le f545.lt q555)
        have ne_b459_vl554 : b459 ≠ vl554 := Nat.ne_of_lt (Nat.lt_of_lt_of_le f546.lt q555)
        have ne_b475_vl554 : b475 ≠ vl554 := Nat.ne_of_lt (Nat.lt_of_lt_of_le f548.lt q555)
        have ne_b495_vl554 : b495 ≠ vl554 := Nat.ne_of_lt (Nat.lt_of_lt_of_le f550.lt q555)
        have ne_b509_vl554 : b509 ≠ vl554 := Nat.ne_of_lt (Nat.lt_of_lt_of_le f552.lt q555)
        have ne_b537_vl554 : b537 ≠ vl554 := Nat.ne_of_lt (Nat.lt_of_lt_of_le A541.lt q555)
        have ge_vl554 : n0 ≤ vl554 := Nat.le_trans (f544.1 ▸ f544.2.1) q555
        have f562 := f544.keep q556 all0
        have f563 := f545.keep q556
        have f564 := f546.keep q556
        have f565 := Nat.le_trans f547 q556.1
        have f566 := f548.keep q556
        have f567 := Nat.le_trans f549 q556.1
        have f568 := f550.keep q556 nin0
        have f569 := f551.keep q556
        have f570 := f552.keep q556
        have f571 := own_AL0_keep f553 q556 nin0
        have f572 := A541.keep q556 nin0
        have f573 := B543.keep q556
        show G w _ h559 11 60 180 #[.val (.int p0), .val (.int p1), .val (.int p2), .val (.int p3), .val (.int p4), .val (.int p1.toInt16.toInt32), .val (.int b), .val (.int (0 : Int32)), .val (.ref b446), .val (.ref b459), .val (.ref b475), .val (.ref b495), .val (.ref b509), .val (.ref b537), .val (.int (0 : Int32)), .unset, .unset] [(.ref vl554)]
        refine g_astore C (pc' := 182) (Ls' := #[.val (.int p0), .val (.int p1), .val (.int p2), .val (.int p3), .val (.int p4), .val (.int p1.toInt16.toInt32), .val (.int b), .val (.int (0 : Int32)), .val (.ref b446), .val (.ref b459), .val (.ref b475), .val (.ref b495), .val (.ref b509), .val (.ref b537), .val (.int (0 : Int32)), .val (.ref vl554), .unset]) at_180 rfl rfl rfl rfl ?_
        refine g_iconst C (pc' := 183) (v := (1 : Int32)) at_182 (by decide) rfl ?_
        refine g_istore C (pc' := 185) (Ls' := #[.val (.int p0), .val (.int p1), .val (.int p2), .val (.int p3), .val (.int p4), .val (.int p1.toInt16.toInt32), .val (.int b), .val (.int (0 : Int32)), .val (.ref b446), .val (.ref b459), .val (.ref b475), .val (.ref b495), .val (.ref b509), .val (.ref b537), .val (.int (0 : Int32)), .val (.ref vl554), .val (.int (1 : Int32))]) at_183 rfl rfl rfl ?_
        refine g_goto C (pc' := 260) at_185 (by decide) rfl ?_
        refine g_aload C (pc' := 262) at_260 rfl rfl rfl ?_
        refine g_callS C (pc' := 265) (k' := 11) (n' := 60) (argsL := [(.ref vl554)]) (rest := []) (wd hw 84 rfl) (wd hw 85 rfl) (wd hw 68 rfl) (wd hw 86 rfl) (by decide) at_262 pd_6 rfl rfl rfl (hd_1 l Z a0 hw n0 h559 f562 s_I32 s_DEF s_EL s_EA mr H vl554 q557 q558) (Nat.le_of_ble_eq_true rfl) (Nat.le_of_ble_eq_true rfl) (Nat.le_of_ble_eq_true rfl) (Nat.le_of_ble_eq_true rfl) rfl rfl rfl (fun v575 h574 q576 => ?_)
        obtain ⟨rfl, eh574⟩ := q576
        subst h574
        show G w _ h559 11 60 265 #[.val (.int p0), .val (.int p1), .val (.int p2), .val (.int p3), .val (.int p4), .val (.int p1.toInt16.toInt32), .val (.int b), .val (.int (0 : Int32)), .val (.ref b446), .val (.ref b459), .val (.ref b475), .val (.ref b495), .val (.ref b509), .val (.ref b537), .val (.int (0 : Int32)), .val (.ref vl554), .val (.int (1 : Int32))] [(.int (1 : Int32))]
        refine g_iload C (pc' := 267) at_265 rfl rfl ?_
        refine g_icN C (pc' := 270) at_267 rfl (by decide) rfl ?_
        refine g_iconst C (pc' := 271) (v := (1 : Int32)) at_270 (by decide) rfl ?_
        refine g_goto C (pc' := 275) at_271 (by decide) rfl ?_
        exact g_zreturn C at_275 rfl rfl (Nat.le_of_ble_eq_true rfl) (Nat.le_of_ble_eq_true rfl) (⟨⟨rfl, f565⟩, f567⟩)
      · rw [e5]
        refine g_istore C (pc' := 170) (Ls' := #[.val (.int p0), .val (.int p1), .val (.int p2), .val (.int p3), .val (.int p4), .val (.int p1.toInt16.toInt32), .val (.int b), .val (.int (0 : Int32)), .val (.ref b446), .val (.ref b459), .val (.ref b475), .val (.ref b495), .val (.ref b509), .val (.ref b537), .val (.int (1 : Int32)), .unset, .unset]) at_168 rfl rfl rfl ?_
        refine g_iload C (pc' := 172) at_170 rfl rfl ?_
        refine g_ifY C (pc' := 188) at_172 rfl (by decide) (by decide) rfl ?_
        refine g_iload C (pc' := 190) at_188 rfl rfl ?_
        refine g_iconst C (pc' := 191) (v := (1 : Int32)) at_190 (by decide) rfl ?_
        refine g_icN C (pc' := 194) at_191 rfl (by decide) rfl ?_
        refine g_aload C (pc' := 196) at_194 rfl rfl rfl ?_
        refine g_astore C (pc' := 198) (Ls' := #[.val (.int p0), .val (.int p1), .val (.int p2), .val (.int p3), .val (.int p4), .val (.int p1.toInt16.toInt32), .val (.int b), .val (.int (0 : Int32)), .val (.ref b446), .val (.ref b459), .val (.ref b475), .val (.ref b495), .val (.ref b509), .val (.ref b537), .val (.int (1 : Int32)), .val (.ref b509), .unset]) at_196 rfl rfl rfl rfl ?_
        refine g_iconst C (pc' := 199) (v := (0 : Int32)) at_198 (by decide) rfl ?_
        refine g_istore C (pc' := 201) (Ls' := #[.val (.int p0), .val (.int p1), .val (.int p2), .val (.int p3), .val (.int p4), .val (.int p1.toInt16.toInt32), .val (.int b), .val (.int (0 : Int32)), .val (.ref b446), .val (.ref b459), .val (.ref b475), .val (.ref b495), .val (.ref b509), .val (.ref b537), .val (.int (1 : Int32)), .val (.ref b509), .val (.int (0 : Int32))]) at_199 rfl rfl rfl ?_
        refine g_goto C (pc' := 260) at_201 (by decide) rfl ?_
        refine g_aload C (pc' := 262) at_260 rfl rfl rfl ?_
        refine g_callS C (pc' := 265) (k' := 10) (n' := 56) (argsL := [(.ref b509)]) (rest := []) (wd hw 84 rfl) (wd hw 85 rfl) (wd hw 68 rfl) (wd hw 86 rfl) (by decide) at_262 pd_6 rfl rfl rfl (hd_AL l Z a0 hw n0 h536 f544 s_I32 s_DEF s_EL s_EA mr H b509 f552) (Nat.le_of_ble_eq_true rfl) (Nat.le_of_ble_eq_true rfl) (Nat.le_of_ble_eq_true rfl) (Nat.le_of_ble_eq_true rfl) rfl rfl rfl (fun v578 h577 q579 => ?_)
        obtain ⟨rfl, eh577⟩ := q579
        subst h577
        show G w _ h536 10 56 265 #[.val (.int p0), .val (.int p1), .val (.int p2), .val (.int p3), .val (.int p4), .val (.int p1.toInt16.toInt32), .val (.int b), .val (.int (0 : Int32)), .val (.ref b446), .val (.ref b459), .val (.ref b475), .val (.ref b495), .val (.ref b509), .val (.ref b537), .val (.int (1 : Int32)), .val (.ref b509), .val (.int (0 : Int32))] [(.int (0 : Int32))]
        refine g_iload C (pc' := 267) at_265 rfl rfl ?_
        refine g_icN C (pc' := 270) at_267 rfl (by decide) rfl ?_
        refine g_iconst C (pc' := 271) (v := (1 : Int32)) at_270 (by decide) rfl ?_
        refine g_goto C (pc' := 275) at_271 (by decide) rfl ?_
        exact g_zreturn C at_275 rfl rfl (Nat.le_of_ble_eq_true rfl) (Nat.le_of_ble_eq_true rfl) (⟨⟨rfl, f547⟩, f549⟩)
      · rw [e5]
        refine g_istore C (pc' := 170) (Ls' := #[.val (.int p0), .val (.int p1), .val (.int p2), .val (.int p3), .val (.int p4), .val (.int p1.toInt16.toInt32), .val (.int b), .val (.int (0 : Int32)), .val (.ref b446), .val (.ref b459), .val (.ref b475), .val (.ref b495), .val (.ref b509), .val (.ref b537), .val (.int (2 : Int32)), .unset, .unset]) at_168 rfl rfl rfl ?_
        refine g_iload C (pc' := 172) at_170 rfl rfl ?_
        refine g_ifY C (pc' := 188) at_172 rfl (by decide) (by decide) rfl ?_
        refine g_iload C (pc' := 190) at_188 rfl rfl ?_
        refine g_iconst C (pc' := 191) (v := (1 : Int32)) at_190 (by decide) rfl ?_
        refine g_icY C (pc' := 204) at_191 rfl (by decide) (by decide) rfl ?_
        refine g_iload C (pc' := 206) at_204 rfl rfl ?_
        refine g_iconst C (pc' := 207) (v := (2 : Int32)) at_206 (by decide) rfl ?_
        refine g_icN C (pc' := 210) at_207 rfl (by decide) rfl ?_
        refine g_aload C (pc' := 212) at_210 rfl rfl rfl ?_
        refine g_aload C (pc' := 214) at_212 rfl rfl rfl ?_
        refine g_virtual C (pc' := 217) (k' := 10) (n' := 56) (argsL := []) (rest := [(.ref b537)]) (wd hw 128 rfl) (wd hw 129 rfl) (nfSel (wd hw 131 rfl)) (wd hw 131 rfl) (wd hw 130 rfl) (wd hw 2 rfl) (wd hw 132 rfl) (by decide) at_214 pd_13 rfl rfl rfl f545 (typ l Z a0 hw n0 h536 f544 s_I32 s_DEF s_EL s_EA mr H b446) (Nat.le_of_ble_eq_true rfl) (Nat.le_of_ble_eq_true rfl) (Nat.le_of_ble_eq_true rfl) (Nat.le_of_ble_eq_true rfl) rfl rfl rfl (fun v581 h580 q582 => ?_)
        obtain ⟨rfl, eh580⟩ := q582
        subst h580
        show G w _ h536 10 56 217 #[.val (.int p0), .val (.int p1), .val (.int p2), .val (.int p3), .val (.int p4), .val (.int p1.toInt16.toInt32), .val (.int b), .val (.int (0 : Int32)), .val (.ref b446), .val (.ref b459), .val (.ref b475), .val (.ref b495), .val (.ref b509), .val (.ref b537), .val (.int (2 : Int32)), .unset, .unset] [(.ref s_I32), (.ref b537)]
        refine g_callS C (pc' := 220) (k' := 11) (n' := 60) (argsL := [(.ref b537), (.ref s_I32)]) (rest := []) (wd hw 136 rfl) (wd hw 137 rfl) (wd hw 68 rfl) (wd hw 138 rfl) (by decide) at_217 pd_14 rfl rfl rfl (ofL_0 l Z a0 hw n0 h536 f544 s_I32 s_DEF s_EL s_EA mr H b537 s_I32) (Nat.le_of_ble_eq_true rfl) (Nat.le_of_ble_eq_true rfl) (Nat.le_of_ble_eq_true rfl) (Nat.le_of_ble_eq_true rfl) rfl rfl rfl (fun v589 h588 q590 => ?_)
        obtain ⟨vl583, rfl, q584, q585, q586, q587⟩ := q590
        have ne_b446_vl583 : b446 ≠ vl583 := Nat.ne_of_lt (Nat.lt_of_lt_of_le f545.lt q584)
        have ne_b459_vl583 : b459 ≠ vl583 := Nat.ne_of_lt (Nat.lt_of_lt_of_le f546.lt q584)
        have ne_b475_vl583 : b475 ≠ vl583 := Nat.ne_of_lt (Nat.lt_of_lt_of_le f548.lt q584)
        have ne_b495_vl583 : b495 ≠ vl583 := Nat.ne_of_lt (Nat.lt_of_lt_of_le f550.lt q584)
        have ne_b509_vl583 : b509 ≠ vl583 := Nat.ne_of_lt (Nat.lt_of_lt_of_le f552.lt q584)
        have ne_b537_vl583 : b537 ≠ vl583 := Nat.ne_of_lt (Nat.lt_of_lt_of_le A541.lt q584)
        have ge_vl583 : n0 ≤ vl583 := Nat.le_trans (f544.1 ▸ f544.2.1) q584
        have f591 := f544.keep q585 all0
        have f592 := f545.keep q585
        have f593 := f546.keep q585
        have f594 := Nat.le_trans f547 q585.1
        have f595 := f548.keep q585
        have f596 := Nat.le_trans f549 q585.1
        have f597 := f550.keep q585 nin0
        have f598 := f551.keep q585
        have f599 := f552.keep q585
        have f600 := own_AL0_keep f553 q585 nin0
        have f601 := A541.keep q585 nin0
        have f602 := B543.keep q585
        show G w _ h588 11 60 220 #[.val (.int p0), .val (.int p1), .val (.int p2), .val (.int p3), .val (.int p4), .val (.int p1.toInt16.toInt32), .val (.int b), .val (.int (0 : Int32)), .val (.ref b446), .val (.ref b459), .val (.ref b475), .val (.ref b495), .val (.ref b509), .val (.ref b537), .val (.int (2 : Int32)), .unset, .unset] [(.ref vl583)]
        refine g_astore C (pc' := 222) (Ls' := #[.val (.int p0), .val (.int p1), .val (.int p2), .val (.int p3), .val (.int p4), .val (.int p1.toInt16.toInt32), .val (.int b), .val (.int (0 : Int32)), .val (.ref b446), .val (.ref b459), .val (.ref b475), .val (.ref b495), .val (.ref b509), .val (.ref b537), .val (.int (2 : Int32)), .val (.ref vl583), .unset]) at_220 rfl rfl rfl rfl ?_
        refine g_iconst C (pc' := 223) (v := (0 : Int32)) at_222 (by decide) rfl ?_
        refine g_istore C (pc' := 225) (Ls' := #[.val (.int p0), .val (.int p1), .val (.int p2), .val (.int p3), .val (.int p4), .val (.int p1.toInt16.toInt32), .val (.int b), .val (.int (0 : Int32)), .val (.ref b446), .val (.ref b459), .val (.ref b475), .val (.ref b495), .val (.ref b509), .val (.ref b537), .val (.int (2 : Int32)), .val (.ref vl583), .val (.int (0 : Int32))]) at_223 rfl rfl rfl ?_
        refine g_goto C (pc' := 260) at_225 (by decide) rfl ?_
        refine g_aload C (pc' := 262) at_260 rfl rfl rfl ?_
        refine g_callS C (pc' := 265) (k' := 11) (n' := 60) (argsL := [(.ref vl583)]) (rest := []) (wd hw 84 rfl) (wd hw 85 rfl) (wd hw 68 rfl) (wd hw 86 rfl) (by decide) at_262 pd_6 rfl rfl rfl (hd_0 l Z a0 hw n0 h588 f591 s_I32 s_DEF s_EL s_EA mr H vl583 q586 q587) (Nat.le_of_ble_eq_true rfl) (Nat.le_of_ble_eq_true rfl) (Nat.le_of_ble_eq_true rfl) (Nat.le_of_ble_eq_true rfl) rfl rfl rfl (fun v604 h603 q605 => ?_)
        obtain ⟨rfl, eh603⟩ := q605
        subst h603
        show G w _ h588 11 60 265 #[.val (.int p0), .val (.int p1), .val (.int p2), .val (.int p3), .val (.int p4), .val (.int p1.toInt16.toInt32), .val (.int b), .val (.int (0 : Int32)), .val (.ref b446), .val (.ref b459), .val (.ref b475), .val (.ref b495), .val (.ref b509), .val (.ref b537), .val (.int (2 : Int32)), .val (.ref vl583), .val (.int (0 : Int32))] [(.int (0 : Int32))]
        refine g_iload C (pc' := 267) at_265 rfl rfl ?_
        refine g_icN C (pc' := 270) at_267 rfl (by decide) rfl ?_
        refine g_iconst C (pc' := 271) (v := (1 : Int32)) at_270 (by decide) rfl ?_
        refine g_goto C (pc' := 275) at_271 (by decide) rfl ?_
        exact g_zreturn C at_275 rfl rfl (Nat.le_of_ble_eq_true rfl) (Nat.le_of_ble_eq_true rfl) (⟨⟨rfl, f594⟩, f596⟩)
      · rw [e5]
        refine g_istore C (pc' := 170) (Ls' := #[.val (.int p0), .val (.int p1), .val (.int p2), .val (.int p3), .val (.int p4), .val (.int p1.toInt16.toInt32), .val (.int b), .val (.int (0 : Int32)), .val (.ref b446), .val (.ref b459), .val (.ref b475), .val (.ref b495), .val (.ref b509), .val (.ref b537), .val (.int (3 : Int32)), .unset, .unset]) at_168 rfl rfl rfl ?_
        refine g_iload C (pc' := 172) at_170 rfl rfl ?_
        refine g_ifY C (pc' := 188) at_172 rfl (by decide) (by decide) rfl ?_
        refine g_iload C (pc' := 190) at_188 rfl rfl ?_
        refine g_iconst C (pc' := 191) (v := (1 : Int32)) at_190 (by decide) rfl ?_
        refine g_icY C (pc' := 204) at_191 rfl (by decide) (by decide) rfl ?_
        refine g_iload C (pc' := 206) at_204 rfl rfl ?_
        refine g_iconst C (pc' := 207) (v := (2 : Int32)) at_206 (by decide) rfl ?_
        refine g_icY C (pc' := 228) at_207 rfl (by decide) (by decide) rfl ?_
        refine g_iload C (pc' := 230) at_228 rfl rfl ?_
        refine g_iconst C (pc' := 231) (v := (3 : Int32)) at_230 (by decide) rfl ?_
        refine g_icN C (pc' := 234) at_231 rfl (by decide) rfl ?_
        refine g_aload C (pc' := 236) at_234 rfl rfl rfl ?_
        refine g_callS C (pc' := 239) (k' := 11) (n' := 60) (argsL := [(.ref b495)]) (rest := []) (wd hw 66 rfl) (wd hw 67 rfl) (wd hw 68 rfl) (wd hw 69 rfl) (by decide) at_236 pd_4 rfl rfl rfl (ofL_1 l Z a0 hw n0 h536 f544 s_I32 s_DEF s_EL s_EA mr H b495) (Nat.le_of_ble_eq_true rfl) (Nat.le_of_ble_eq_true rfl) (Nat.le_of_ble_eq_true rfl) (Nat.le_of_ble_eq_true rfl) rfl rfl rfl (fun v612 h611 q613 => ?_)
        obtain ⟨vl606, rfl, q607, q608, q609, q610⟩ := q613
        have ne_b446_vl606 : b446 ≠ vl606 := Nat.ne_of_lt (Nat.lt_of_lt_of_le f545.lt q607)
        have ne_b459_vl606 : b459 ≠ vl606 := Nat.ne_of_lt (Nat.lt_of_lt_of_le f546.lt q607)
        have ne_b475_vl606 : b475 ≠ vl606 := Nat.ne_of_lt (Nat.lt_of_lt_of_le f548.lt q607)
        have ne_b495_vl606 : b495 ≠ vl606 := Nat.ne_of_lt (Nat.lt_of_lt_of_le f550.lt q607)
        have ne_b509_vl606 : b509 ≠ vl606 := Nat.ne_of_lt (Nat.lt_of_lt_of_le f552.lt q607)
        have ne_b537_vl606 : b537 ≠ vl606 := Nat.ne_of_lt (Nat.lt_of_lt_of_le A541.lt q607)
        have ge_vl606 : n0 ≤ vl606 := Nat.le_trans (f544.1 ▸ f544.2.1) q607
        have f614 := f544.keep q608 all0
        have f615 := f545.keep q608
        have f616 := f546.keep q608
        have f617 := Nat.le_trans f547 q608.1
        have f618 := f548.keep q608
        have f619 := Nat.le_trans f549 q608.1
        have f620 := f550.keep q608 nin0
        have f621 := f551.keep q608
        have f622 := f552.keep q608
        have f623 := own_AL0_keep f553 q608 nin0
        have f624 := A541.keep q608 nin0
        have f625 := B543.keep q608
        show G w _ h611 11 60 239 #[.val (.int p0), .val (.int p1), .val (.int p2), .val (.int p3), .val (.int p4), .val (.int p1.toInt16.toInt32), .val (.int b), .val (.int (0 : Int32)), .val (.ref b446), .val (.ref b459), .val (.ref b475), .val (.ref b495), .val (.ref b509), .val (.ref b537), .val (.int (3 : Int32)), .unset, .unset] [(.ref vl606)]
        refine g_callS C (pc' := 242) (k' := 11) (n' := 60) (argsL := [(.ref vl606)]) (rest := []) (wd hw 125 rfl) (wd hw 126 rfl) (wd hw 68 rfl) (wd hw 127 rfl) (by decide) at_239 pd_12 rfl rfl rfl (vco l Z a0 hw n0 h611 f614 s_I32 s_DEF s_EL s_EA mr H vl606 q609) (Nat.le_of_ble_eq_true rfl) (Nat.le_of_ble_eq_true rfl) (Nat.le_of_ble_eq_true rfl) (Nat.le_of_ble_eq_true rfl) rfl rfl rfl (fun v627 h626 q628 => ?_)
        obtain ⟨rfl, eh626⟩ := q628
        subst h626
        show G w _ h611 11 60 242 #[.val (.int p0), .val (.int p1), .val (.int p2), .val (.int p3), .val (.int p4), .val (.int p1.toInt16.toInt32), .val (.int b), .val (.int (0 : Int32)), .val (.ref b446), .val (.ref b459), .val (.ref b475), .val (.ref b495), .val (.ref b509), .val (.ref b537), .val (.int (3 : Int32)), .unset, .unset] [(.ref vl606)]
        refine g_astore C (pc' := 244) (Ls' := #[.val (.int p0), .val (.int p1), .val (.int p2), .val (.int p3), .val (.int p4), .val (.int p1.toInt16.toInt32), .val (.int b), .val (.int (0 : Int32)), .val (.ref b446), .val (.ref b459), .val (.ref b475), .val (.ref b495), .val (.ref b509), .val (.ref b537), .val (.int (3 : Int32)), .val (.ref vl606), .unset]) at_242 rfl rfl rfl rfl ?_
        refine g_iconst C (pc' := 245) (v := (1 : Int32)) at_244 (by decide) rfl ?_
        refine g_istore C (pc' := 247) (Ls' := #[.val (.int p0), .val (.int p1), .val (.int p2), .val (.int p3), .val (.int p4), .val (.int p1.toInt16.toInt32), .val (.int b), .val (.int (0 : Int32)), .val (.ref b446), .val (.ref b459), .val (.ref b475), .val (.ref b495), .val (.ref b509), .val (.ref b537), .val (.int (3 : Int32)), .val (.ref vl606), .val (.int (1 : Int32))]) at_245 rfl rfl rfl ?_
        refine g_goto C (pc' := 260) at_247 (by decide) rfl ?_
        refine g_aload C (pc' := 262) at_260 rfl rfl rfl ?_
        refine g_callS C (pc' := 265) (k' := 11) (n' := 60) (argsL := [(.ref vl606)]) (rest := []) (wd hw 84 rfl) (wd hw 85 rfl) (wd hw 68 rfl) (wd hw 86 rfl) (by decide) at_262 pd_6 rfl rfl rfl (hd_1 l Z a0 hw n0 h611 f614 s_I32 s_DEF s_EL s_EA mr H vl606 q609 q610) (Nat.le_of_ble_eq_true rfl) (Nat.le_of_ble_eq_true rfl) (Nat.le_of_ble_eq_true rfl) (Nat.le_of_ble_eq_true rfl) rfl rfl rfl (fun v630 h629 q631 => ?_)
        obtain ⟨rfl, eh629⟩ := q631
        subst h629
        show G w _ h611 11 60 265 #[.val (.int p0), .val (.int p1), .val (.int p2), .val (.int p3), .val (.int p4), .val (.int p1.toInt16.toInt32), .val (.int b), .val (.int (0 : Int32)), .val (.ref b446), .val (.ref b459), .val (.ref b475), .val (.ref b495), .val (.ref b509), .val (.ref b537), .val (.int (3 : Int32)), .val (.ref vl606), .val (.int (1 : Int32))] [(.int (1 : Int32))]
        refine g_iload C (pc' := 267) at_265 rfl rfl ?_
        refine g_icN C (pc' := 270) at_267 rfl (by decide) rfl ?_
        refine g_iconst C (pc' := 271) (v := (1 : Int32)) at_270 (by decide) rfl ?_
        refine g_goto C (pc' := 275) at_271 (by decide) rfl ?_
        exact g_zreturn C at_275 rfl rfl (Nat.le_of_ble_eq_true rfl) (Nat.le_of_ble_eq_true rfl) (⟨⟨rfl, f617⟩, f619⟩)
      · rw [e5]
        refine g_istore C (pc' := 170) (Ls' := #[.val (.int p0), .val (.int p1), .val (.int p2), .val (.int p3), .val (.int p4), .val (.int p1.toInt16.toInt32), .val (.int b), .val (.int (0 : Int32)), .val (.ref b446), .val (.ref b459), .val (.ref b475), .val (.ref b495), .val (.ref b509), .val (.ref b537), .val (.int (4 : Int32)), .unset, .unset]) at_168 rfl rfl rfl ?_
        refine g_iload C (pc' := 172) at_170 rfl rfl ?_
        refine g_ifY C (pc' := 188) at_172 rfl (by decide) (by decide) rfl ?_
        refine g_iload C (pc' := 190) at_188 rfl rfl ?_
        refine g_iconst C (pc' := 191) (v := (1 : Int32)) at_190 (by decide) rfl ?_
        refine g_icY C (pc' := 204) at_191 rfl (by decide) (by decide) rfl ?_
        refine g_iload C (pc' := 206) at_204 rfl rfl ?_
        refine g_iconst C (pc' := 207) (v := (2 : Int32)) at_206 (by decide) rfl ?_
        refine g_icY C (pc' := 228) at_207 rfl (by decide) (by decide) rfl ?_
        refine g_iload C (pc' := 230) at_228 rfl rfl ?_
        refine g_iconst C (pc' := 231) (v := (3 : Int32)) at_230 (by decide) rfl ?_
        refine g_icY C (pc' := 250) at_231 rfl (by decide) (by decide) rfl ?_
        refine g_aload C (pc' := 252) at_250 rfl rfl rfl ?_
        refine g_callS C (pc' := 255) (k' := 10) (n' := 56) (argsL := [(.ref b509)]) (rest := []) (wd hw 125 rfl) (wd hw 126 rfl) (wd hw 68 rfl) (wd hw 127 rfl) (by decide) at_252 pd_12 rfl rfl rfl (vco_0 l Z a0 hw n0 h536 f544 s_I32 s_DEF s_EL s_EA mr H b509 (0 : Int32)  f553) (Nat.le_of_ble_eq_true rfl) (Nat.le_of_ble_eq_true rfl) (Nat.le_of_ble_eq_true rfl) (Nat.le_of_ble_eq_true rfl) rfl rfl rfl (fun v633 h632 q634 => ?_)
        obtain ⟨rfl, eh632⟩ := q634
        subst h632
        show G w _ h536 10 56 255 #[.val (.int p0), .val (.int p1), .val (.int p2), .val (.int p3), .val (.int p4), .val (.int p1.toInt16.toInt32), .val (.int b), .val (.int (0 : Int32)), .val (.ref b446), .val (.ref b459), .val (.ref b475), .val (.ref b495), .val (.ref b509), .val (.ref b537), .val (.int (4 : Int32)), .unset, .unset] [(.ref s_EL)]
        refine g_astore C (pc' := 257) (Ls' := #[.val (.int p0), .val (.int p1), .val (.int p2), .val (.int p3), .val (.int p4), .val (.int p1.toInt16.toInt32), .val (.int b), .val (.int (0 : Int32)), .val (.ref b446), .val (.ref b459), .val (.ref b475), .val (.ref b495), .val (.ref b509), .val (.ref b537), .val (.int (4 : Int32)), .val (.ref s_EL), .unset]) at_255 rfl rfl rfl rfl ?_
        refine g_iconst C (pc' := 258) (v := (0 : Int32)) at_257 (by decide) rfl ?_
        refine g_istore C (pc' := 260) (Ls' := #[.val (.int p0), .val (.int p1), .val (.int p2), .val (.int p3), .val (.int p4), .val (.int p1.toInt16.toInt32), .val (.int b), .val (.int (0 : Int32)), .val (.ref b446), .val (.ref b459), .val (.ref b475), .val (.ref b495), .val (.ref b509), .val (.ref b537), .val (.int (4 : Int32)), .val (.ref s_EL), .val (.int (0 : Int32))]) at_258 rfl rfl rfl ?_
        refine g_aload C (pc' := 262) at_260 rfl rfl rfl ?_
        refine g_callS C (pc' := 265) (k' := 10) (n' := 56) (argsL := [(.ref s_EL)]) (rest := []) (wd hw 84 rfl) (wd hw 85 rfl) (wd hw 68 rfl) (wd hw 86 rfl) (by decide) at_262 pd_6 rfl rfl rfl (hd_LN l Z a0 hw n0 h536 f544 s_I32 s_DEF s_EL s_EA mr H s_EL (E_EL.ext f544.2)) (Nat.le_of_ble_eq_true rfl) (Nat.le_of_ble_eq_true rfl) (Nat.le_of_ble_eq_true rfl) (Nat.le_of_ble_eq_true rfl) rfl rfl rfl (fun v636 h635 q637 => ?_)
        obtain ⟨rfl, eh635⟩ := q637
        subst h635
        show G w _ h536 10 56 265 #[.val (.int p0), .val (.int p1), .val (.int p2), .val (.int p3), .val (.int p4), .val (.int p1.toInt16.toInt32), .val (.int b), .val (.int (0 : Int32)), .val (.ref b446), .val (.ref b459), .val (.ref b475), .val (.ref b495), .val (.ref b509), .val (.ref b537), .val (.int (4 : Int32)), .val (.ref s_EL), .val (.int (0 : Int32))] [(.int (0 : Int32))]
        refine g_iload C (pc' := 267) at_265 rfl rfl ?_
        refine g_icN C (pc' := 270) at_267 rfl (by decide) rfl ?_
        refine g_iconst C (pc' := 271) (v := (1 : Int32)) at_270 (by decide) rfl ?_
        refine g_goto C (pc' := 275) at_271 (by decide) rfl ?_
        exact g_zreturn C at_275 rfl rfl (Nat.le_of_ble_eq_true rfl) (Nat.le_of_ble_eq_true rfl) (⟨⟨rfl, f547⟩, f549⟩)
    · rw [e1]
      refine g_ifN C (pc' := 29) at_26 rfl (by decide) rfl ?_
      refine g_iconst C (pc' := 30) (v := (1 : Int32)) at_29 (by decide) rfl ?_
      refine g_goto C (pc' := 34) at_30 (by decide) rfl ?_
      refine g_istore C (pc' := 36) (Ls' := #[.val (.int p0), .val (.int p1), .val (.int p2), .val (.int p3), .val (.int p4), .val (.int p1.toInt16.toInt32), .val (.int b), .val (.int (1 : Int32)), .unset, .unset, .unset, .unset, .unset, .unset, .unset, .unset, .unset]) at_34 rfl rfl rfl ?_
      refine g_new C (pc' := 39) (k' := 1) (n' := 1) (wd hw 0 rfl) (wd hw 1 rfl) (wd hw 2 rfl) at_36 (by decide) (by decide) rfl rfl rfl (fun h638 b639 ex640 E641 A642 D643 => ?_)
      have ge_b639 : n0 ≤ b639 := by rw [ex640]; exact O.1 ▸ O.2.1
      have f644 := O.ext E641
      have F_value_b639 : Fld Z h638 b639 "com/example/strictwire/strictwire/I32Value" "value" "I" (.int (0 : Int32)) := D643 (Or.inr (wd hw 15 rfl)) (ty := .int) (by decide)
      refine g_dup C (pc' := 40) at_39 rfl rfl rfl ?_
      refine g_iloadN C (pc' := 41) at_40 rfl rfl ?_
      refine g_special C (pc' := 44) (k' := 1) (n' := 1) (argsL := [(.int p3)]) (rest := [(.ref b639)]) (wd hw 3 rfl) (wd hw 4 rfl) (wd hw 2 rfl) (wd hw 5 rfl) (by decide) rfl at_41 pd_0 rfl rfl rfl (ivI l Z a0 hw n0 h638 f644 s_I32 s_DEF s_EL s_EA mr H b639 p3 ge_b639 A642 F_value_b639) (Nat.le_of_ble_eq_true rfl) (Nat.le_of_ble_eq_true rfl) (Nat.le_of_ble_eq_true rfl) (Nat.le_of_ble_eq_true rfl) rfl rfl rfl (fun v647 h646 q648 => ?_)
      obtain ⟨rfl, K645⟩ := q648
      have f649 := f644.keep K645 (allS ge_b639 all0)
      have f650 := A642.keep K645
      show G w _ h646 1 1 44 #[.val (.int p0), .val (.int p1), .val (.int p2), .val (.int p3), .val (.int p4), .val (.int p1.toInt16.toInt32), .val (.int b), .val (.int (1 : Int32)), .unset, .unset, .unset, .unset, .unset, .unset, .unset, .unset, .unset] [(.ref b639)]
      refine g_astore C (pc' := 46) (Ls' := #[.val (.int p0), .val (.int p1), .val (.int p2), .val (.int p3), .val (.int p4), .val (.int p1.toInt16.toInt32), .val (.int b), .val (.int (1 : Int32)), .val (.ref b639), .unset, .unset, .unset, .unset, .unset, .unset, .unset, .unset]) at_44 rfl rfl rfl rfl ?_
      refine g_new C (pc' := 49) (k' := 2) (n' := 3) (wd hw 16 rfl) (wd hw 17 rfl) (wd hw 18 rfl) at_46 (by decide) (by decide) rfl rfl rfl (fun h651 b652 ex653 E654 A655 D656 => ?_)
      have ne_b639_b652 : b639 ≠ b652 := Nat.ne_of_lt (by rw [ex653]; exact f650.lt)
      have ge_b652 : n0 ≤ b652 := by rw [ex653]; exact f649.1 ▸ f649.2.1
      have f657 := f649.ext E654
      have f658 := f650.ext E654
      have F_id_b652 : Fld Z h651 b652 "com/example/strictwire/strictwire/Field" "id" "S" (.int (0 : Int32)) := D656 (Or.inr (wd hw 36 rfl)) (ty := .short) (by decide)
      have F_value_b652 : Fld Z h651 b652 "com/example/strictwire/strictwire/Field" "value" "Lcom/example/strictwire/strictwire/Value;" .null := D656 (Or.inr (wd hw 38 rfl)) (ty := (.object "com/example/strictwire/strictwire/Value")) (by decide)
      refine g_dup C (pc' := 50) at_49 rfl rfl rfl ?_
      refine g_iload C (pc' := 52) at_50 rfl rfl ?_
      refine g_aload C (pc' := 54) at_52 rfl rfl rfl ?_
      refine g_specialW C WD (pc' := 57) (k' := 4) (n' := 27) (argsL := [(.int p1.toInt16.toInt32), (.ref b639)]) (rest := [(.ref b652)]) (wd hw 19 rfl) (wd hw 20 rfl) (wd hw 18 rfl) (wd hw 21 rfl) (by decide) rfl at_54 pd_2 rfl rfl rfl (fiI l Z a0 hw n0 h651 f657 s_I32 s_DEF s_EL s_EA mr H b652 b639 p1.toInt16.toInt32 ge_b652 A655 F_id_b652 F_value_b652) (Nat.le_of_ble_eq_true rfl) (Nat.le_of_ble_eq_true rfl) (Nat.le_of_ble_eq_true rfl) (Nat.le_of_ble_eq_true rfl) rfl rfl rfl (fun w v661 h660 C WD q662 => ?_)
      obtain ⟨rfl, K659⟩ := q662
      have f663 := f657.keep K659 (allS ge_b652 all0)
      have f664 := f658.keep K659
      have f665 := A655.keep K659
      have sz666 : h660.size ≤ h660.size := Nat.le_refl _
      show G w _ h660 4 27 57 #[.val (.int p0), .val (.int p1), .val (.int p2), .val (.int p3), .val (.int p4), .val (.int p1.toInt16.toInt32), .val (.int b), .val (.int (1 : Int32)), .val (.ref b639), .unset, .unset, .unset, .unset, .unset, .unset, .unset, .unset] [(.ref b652)]
      refine g_astore C (pc' := 59) (Ls' := #[.val (.int p0), .val (.int p1), .val (.int p2), .val (.int p3), .val (.int p4), .val (.int p1.toInt16.toInt32), .val (.int b), .val (.int (1 : Int32)), .val (.ref b639), .val (.ref b652), .unset, .unset, .unset, .unset, .unset, .unset, .unset]) at_57 rfl rfl rfl rfl ?_
      refine g_new C (pc' := 62) (k' := 5) (n' := 29) (wd hw 16 rfl) (wd hw 17 rfl) (wd hw 18 rfl) at_59 (by decide) (by decide) rfl rfl rfl (fun h667 b668 ex669 E670 A671 D672 => ?_)
      have ne_b639_b668 : b639 ≠ b668 := Nat.ne_of_lt (by rw [ex669]; exact f664.lt)
      have ne_b652_b668 : b652 ≠ b668 := Nat.ne_of_lt (by rw [ex669]; exact f665.lt)
      have ge_b668 : n0 ≤ b668 := by rw [ex669]; exact f663.1 ▸ f663.2.1
      have f673 := f663.ext E670
      have f674 := f664.ext E670
      have f675 := f665.ext E670
      have f676 := Nat.le_trans sz666 E670.1
      have F_id_b668 : Fld Z h667 b668 "com/example/strictwire/strictwire/Field" "id" "S" (.int (0 : Int32)) := D672 (Or.inr (wd hw 36 rfl)) (ty := .short) (by decide)
      have F_value_b668 : Fld Z h667 b668 "com/example/strictwire/strictwire/Field" "value" "Lcom/example/strictwire/strictwire/Value;" .null := D672 (Or.inr (wd hw 38 rfl)) (ty := (.object "com/example/strictwire/strictwire/Value")) (by decide)
      refine g_dup C (pc' := 63) at_62 rfl rfl rfl ?_
      refine g_iload C (pc' := 65) at_63 rfl rfl ?_
      refine g_aload C (pc' := 67) at_65 rfl rfl rfl ?_
      refine g_specialW C WD (pc' := 70) (k' := 7) (n' := 53) (argsL := [(.int b), (.ref b639)]) (rest := [(.ref b668)]) (wd hw 19 rfl) (wd hw 20 rfl) (wd hw 18 rfl) (wd hw 21 rfl) (by decide) rfl at_67 pd_2 rfl rfl rfl (fiI l Z a0 hw n0 h667 f673 s_I32 s_DEF s_EL s_EA mr H b668 b639 b ge_b668 A671 F_id_b668 F_value_b668) (Nat.le_of_ble_eq_true rfl) (Nat.le_of_ble_eq_true rfl) (Nat.le_of_ble_eq_true rfl) (Nat.le_of_ble_eq_true rfl) rfl rfl rfl (fun w v679 h678 C WD q680 => ?_)
      obtain ⟨rfl, K677⟩ := q680
      have f681 := f673.keep K677 (allS ge_b668 all0)
      have f682 := f674.keep K677
      have f683 := f675.keep K677
      have f684 := Nat.le_trans f676 K677.1
      have f685 := A671.keep K677
      have sz686 : h678.size ≤ h678.size := Nat.le_refl _
      show G w _ h678 7 53 70 #[.val (.int p0), .val (.int p1), .val (.int p2), .val (.int p3), .val (.int p4), .val (.int p1.toInt16.toInt32), .val (.int b), .val (.int (1 : Int32)), .val (.ref b639), .val (.ref b652), .unset, .unset, .unset, .unset, .unset, .unset, .unset] [(.ref b668)]
      refine g_astore C (pc' := 72) (Ls' := #[.val (.int p0), .val (.int p1), .val (.int p2), .val (.int p3), .val (.int p4), .val (.int p1.toInt16.toInt32), .val (.int b), .val (.int (1 : Int32)), .val (.ref b639), .val (.ref b652), .val (.ref b668), .unset, .unset, .unset, .unset, .unset, .unset]) at_70 rfl rfl rfl rfl ?_
      refine g_iload C (pc' := 74) at_72 rfl rfl ?_
      refine g_ifN C (pc' := 77) at_74 rfl (by decide) rfl ?_
      refine g_iconst C (pc' := 78) (v := (2 : Int32)) at_77 (by decide) rfl ?_
      refine g_newRE C (pc' := 81) (k' := 8) (n' := 55) (cap := 2) (ad := "[Lcom/example/strictwire/strictwire/Field;") (wd hw 16 rfl) (wd hw 39 rfl) (by decide) at_78 rfl (by decide) (by decide) (by decide) (by decide) (by decide) rfl rfl rfl (fun h687 b688 kA689 ex690 E691 A692 B694 Ov693 => ?_)
      have ne_b639_b688 : b639 ≠ b688 := Nat.ne_of_lt (by rw [ex690]; exact f682.lt)
      have ne_b652_b688 : b652 ≠ b688 := Nat.ne_of_lt (by rw [ex690]; exact f683.lt)
      have ne_b668_b688 : b668 ≠ b688 := Nat.ne_of_lt (by rw [ex690]; exact f685.lt)
      have ge_b688 : n0 ≤ b688 := by rw [ex690]; exact f681.1 ▸ f681.2.1
      have f695 := f681.ext E691
      have f696 := f682.ext E691
      have f697 := f683.ext E691
      have f698 := Nat.le_trans f684 E691.1
      have f699 := f685.ext E691
      have f700 := Nat.le_trans sz686 E691.1
      have A701 : Arv Z h687 b688 kA689 (.object "com/example/strictwire/strictwire/Field") (2 : Int32) [.null, .null] .null := A692.pad (pad_rep [] .null 2)
      refine g_dup C (pc' := 82) at_81 rfl rfl rfl ?_
      refine g_iconst C (pc' := 83) (v := (0 : Int32)) at_82 (by decide) rfl ?_
      refine g_aload C (pc' := 85) at_83 rfl rfl rfl ?_
      refine g_aastore C (pc' := 86) at_85 rfl A701 rfl (stoR A701 Ov693 (Ins.self f697)) (by decide) (by decide) ge_b688 rfl (fun h702 W703 => ?_)
      have f704 := f695.wr W703 ge_b688
      have f705 := f696.wr W703
      have f706 := f697.wr W703
      have f707 := Nat.le_trans f698 (Keep.of_wr W703).1
      have f708 := f699.wr W703
      have f709 := Nat.le_trans f700 (Keep.of_wr W703).1
      have f710 := (arv_put A701 rfl W703 (i := 0) rfl (Nat.le_of_ble_eq_true rfl) : Arv Z h702 b688 kA689 (.object "com/example/strictwire/strictwire/Field") (2 : Int32) [(.ref b652), .null] .null)
      have f711 := B694.wr W703
      refine g_dup C (pc' := 87) at_86 rfl rfl rfl ?_
      refine g_iconst C (pc' := 88) (v := (1 : Int32)) at_87 (by decide) rfl ?_
      refine g_aload C (pc' := 90) at_88 rfl rfl rfl ?_
      refine g_aastore C (pc' := 91) at_90 rfl f710 rfl (stoR f710 Ov693 (Ins.self f708)) (by decide) (by decide) ge_b688 rfl (fun h712 W713 => ?_)
      have f714 := f704.wr W713 ge_b688
      have f715 := f705.wr W713
      have f716 := f706.wr W713
      have f717 := Nat.le_trans f707 (Keep.of_wr W713).1
      have f718 := f708.wr W713
      have f719 := Nat.le_trans f709 (Keep.of_wr W713).1
      have f720 := (arv_put f710 rfl W713 (i := 1) rfl (Nat.le_of_ble_eq_true rfl) : Arv Z h712 b688 kA689 (.object "com/example/strictwire/strictwire/Field") (2 : Int32) [(.ref b652), (.ref b668)] .null)
      have f721 := f711.wr W713
      refine g_goto C (pc' := 98) at_91 (by decide) rfl ?_
      refine g_astore C (pc' := 100) (Ls' := #[.val (.int p0), .val (.int p1), .val (.int p2), .val (.int p3), .val (.int p4), .val (.int p1.toInt16.toInt32), .val (.int b), .val (.int (1 : Int32)), .val (.ref b639), .val (.ref b652), .val (.ref b668), .val (.ref b688), .unset, .unset, .unset, .unset, .unset]) at_98 rfl rfl rfl rfl ?_
      refine g_new C (pc' := 103) (k' := 9) (n' := 58) (wd hw 40 rfl) (wd hw 41 rfl) (wd hw 42 rfl) at_100 (by decide) (by decide) rfl rfl rfl (fun h722 b723 ex724 E725 A726 D727 => ?_)
      have ne_b639_b723 : b639 ≠ b723 := Nat.ne_of_lt (by rw [ex724]; exact f715.lt)
      have ne_b652_b723 : b652 ≠ b723 := Nat.ne_of_lt (by rw [ex724]; exact f716.lt)
      have ne_b668_b723 : b668 ≠ b723 := Nat.ne_of_lt (by rw [ex724]; exact f718.lt)
      have ne_b688_b723 : b688 ≠ b723 := Nat.ne_of_lt (by rw [ex724]; exact f720.lt)
      have ge_b723 : n0 ≤ b723 := by rw [ex724]; exact f714.1 ▸ f714.2.1
      have f728 := f714.ext E725
      have f729 := f715.ext E725
      have f730 := f716.ext E725
      have f731 := Nat.le_trans f717 E725.1
      have f732 := f718.ext E725
      have f733 := Nat.le_trans f719 E725.1
      have f734 := f720.ext E725
      have f735 := f721.ext E725
      have F_modCount_b723 : Fld Z h722 b723 "java/util/AbstractList" "modCount" "I" (.int (0 : Int32)) := D727 (Or.inl (wd hw 60 rfl)) (ty := .int) (by decide)
      have F_elementData_b723 : Fld Z h722 b723 "java/util/ArrayList" "elementData" "[Ljava/lang/Object;" .null := D727 (Or.inl (wd hw 63 rfl)) (ty := (.array (.object "java/lang/Object"))) (by decide)
      have F_size_b723 : Fld Z h722 b723 "java/util/ArrayList" "size" "I" (.int (0 : Int32)) := D727 (Or.inl (wd hw 101 rfl)) (ty := .int) (by decide)
      refine g_dup C (pc' := 104) at_103 rfl rfl rfl ?_
      refine g_special C (pc' := 107) (k' := 9) (n' := 58) (argsL := []) (rest := [(.ref b723)]) (wd hw 43 rfl) (wd hw 44 rfl) (wd hw 42 rfl) (wd hw 45 rfl) (by decide) rfl at_104 pd_1 rfl rfl rfl (al_init l Z a0 hw n0 h722 f728 s_I32 s_DEF s_EL s_EA mr H b723 ge_b723 A726 F_modCount_b723 F_elementData_b723 F_size_b723) (Nat.le_of_ble_eq_true rfl) (Nat.le_of_ble_eq_true rfl) (Nat.le_of_ble_eq_true rfl) (Nat.le_of_ble_eq_true rfl) rfl rfl rfl (fun v739 h738 q740 => ?_)
      obtain ⟨rfl, K736, P737⟩ := q740
      have f741 := f728.keep K736 (allS ge_b723 all0)
      have f742 := f729.keep K736
      have f743 := f730.keep K736
      have f744 := Nat.le_trans f731 K736.1
      have f745 := f732.keep K736
      have f746 := Nat.le_trans f733 K736.1
      have f747 := f734.keep K736 (ninS ne_b688_b723 nin0)
      have f748 := f735.keep K736
      have f749 := A726.keep K736
      show G w _ h738 9 58 107 #[.val (.int p0), .val (.int p1), .val (.int p2), .val (.int p3), .val (.int p4), .val (.int p1.toInt16.toInt32), .val (.int b), .val (.int (1 : Int32)), .val (.ref b639), .val (.ref b652), .val (.ref b668), .val (.ref b688), .unset, .unset, .unset, .unset, .unset] [(.ref b723)]
      refine g_astore C (pc' := 109) (Ls' := #[.val (.int p0), .val (.int p1), .val (.int p2), .val (.int p3), .val (.int p4), .val (.int p1.toInt16.toInt32), .val (.int b), .val (.int (1 : Int32)), .val (.ref b639), .val (.ref b652), .val (.ref b668), .val (.ref b688), .val (.ref b723), .unset, .unset, .unset, .unset]) at_107 rfl rfl rfl rfl ?_
      refine g_iload C (pc' := 111) at_109 rfl rfl ?_
      refine g_ifN C (pc' := 114) at_111 rfl (by decide) rfl ?_
      refine g_aload C (pc' := 116) at_114 rfl rfl rfl ?_
      refine g_aload C (pc' := 118) at_116 rfl rfl rfl ?_
      refine g_interface C (pc' := 123) (k' := 10) (n' := 68) (argsL := [(.ref b652)]) (rest := []) (wd hw 89 rfl) (wd hw 90 rfl) (wd hw 91 rfl) rfl (wd hw 92 rfl) (wd hw 93 rfl) (wd hw 94 rfl) (wd hw 95 rfl) (wd hw 96 rfl) (wd hw 42 rfl) (wd hw 97 rfl) (by decide) at_118 pd_7 rfl rfl rfl f749 (add_0 l Z a0 hw n0 h738 f741 s_I32 s_DEF s_EL s_EA mr H b723 (0 : Int32) b652 f743 P737) (Nat.le_of_ble_eq_true rfl) (Nat.le_of_ble_eq_true rfl) (Nat.le_of_ble_eq_true rfl) (Nat.le_of_ble_eq_true rfl) rfl rfl rfl (fun v756 h755 q757 => ?_)
      obtain ⟨rfl, K750, ed752, kE753, hg754, P751⟩ := q757
      have ne_b639_ed752 : b639 ≠ ed752 := Nat.ne_of_lt (Nat.lt_of_lt_of_le f742.lt hg754)
      have ne_b652_ed752 : b652 ≠ ed752 := Nat.ne_of_lt (Nat.lt_of_lt_of_le f743.lt hg754)
      have ne_b668_ed752 : b668 ≠ ed752 := Nat.ne_of_lt (Nat.lt_of_lt_of_le f745.lt hg754)
      have ne_b688_ed752 : b688 ≠ ed752 := Nat.ne_of_lt (Nat.lt_of_lt_of_le f747.lt hg754)
      have ne_b723_ed752 : b723 ≠ ed752 := Nat.ne_of_lt (Nat.lt_of_lt_of_le f749.lt hg754)
      have ge_ed752 : n0 ≤ ed752 := Nat.le_trans (f741.1 ▸ f741.2.1) hg754
      have f758 := f741.keep K750 (allS ge_b723 all0)
      have f759 := f742.keep K750
      have f760 := f743.keep K750
      have f761 := Nat.le_trans f744 K750.1
      have f762 := f745.keep K750
      have f763 := Nat.le_trans f746 K750.1
      have f764 := f747.keep K750 (ninS ne_b688_b723 nin0)
      have f765 := f748.keep K750
      have f766 := f749.keep K750
      have E767 := P751.2.2.2.2.2.1
      show G w _ h755 10 68 123 #[.val (.int p0), .val (.int p1), .val (.int p2), .val (.int p3), .val (.int p4), .val (.int p1.toInt16.toInt32), .val (.int b), .val (.int (1 : Int32)), .val (.ref b639), .val (.ref b652), .val (.ref b668), .val (.ref b688), .val (.ref b723), .unset, .unset, .unset, .unset] [(.int (1 : Int32))]
      refine g_pop C (pc' := 124) at_123 rfl rfl rfl ?_
      refine g_aload C (pc' := 126) at_124 rfl rfl rfl ?_
      refine g_aload C (pc' := 128) at_126 rfl rfl rfl ?_
      refine g_interface C (pc' := 133) (k' := 10) (n' := 68) (argsL := [(.ref b668)]) (rest := []) (wd hw 89 rfl) (wd hw 90 rfl) (wd hw 91 rfl) rfl (wd hw 92 rfl) (wd hw 93 rfl) (wd hw 94 rfl) (wd hw 95 rfl) (wd hw 96 rfl) (wd hw 42 rfl) (wd hw 97 rfl) (by decide) at_128 pd_7 rfl rfl rfl f766 (add_1 l Z a0 hw n0 h755 f758 s_I32 s_DEF s_EL s_EA mr H b723 ed752 kE753 ((0 : Int32) + (1 : Int32)) b652 b668 f762 P751) (Nat.le_of_ble_eq_true rfl) (Nat.le_of_ble_eq_true rfl) (Nat.le_of_ble_eq_true rfl) (Nat.le_of_ble_eq_true rfl) rfl rfl rfl (fun v771 h770 q772 => ?_)
      obtain ⟨rfl, K768, P769⟩ := q772
      have f773 := f758.keep K768 (allS ge_b723 (allS ge_ed752 all0))
      have f774 := f759.keep K768
      have f775 := f760.keep K768
      have f776 := Nat.le_trans f761 K768.1
      have f777 := f762.keep K768
      have f778 := Nat.le_trans f763 K768.1
      have f779 := f764.keep K768 (ninS ne_b688_b723 (ninS ne_b688_ed752 nin0))
      have f780 := f765.keep K768
      have f781 := f766.keep K768
      have f782 := E767.keep K768
      show G w _ h770 10 68 133 #[.val (.int p0), .val (.int p1), .val (.int p2), .val (.int p3), .val (.int p4), .val (.int p1.toInt16.toInt32), .val (.int b), .val (.int (1 : Int32)), .val (.ref b639), .val (.ref b652), .val (.ref b668), .val (.ref b688), .val (.ref b723), .unset, .unset, .unset, .unset] [(.int (1 : Int32))]
      refine g_pop C (pc' := 134) at_133 rfl rfl rfl ?_
      refine g_iload C (pc' := 136) at_134 rfl rfl ?_
      refine g_ifN C (pc' := 139) at_136 rfl (by decide) rfl ?_
      refine g_iconst C (pc' := 140) (v := (2 : Int32)) at_139 (by decide) rfl ?_
      refine g_newRE C (pc' := 143) (k' := 11) (n' := 70) (cap := 2) (ad := "[Lcom/example/strictwire/strictwire/I32Value;") (wd hw 0 rfl) (wd hw 64 rfl) (by decide) at_140 rfl (by decide) (by decide) (by decide) (by decide) (by decide) rfl rfl rfl (fun h783 b784 kA785 ex786 E787 A788 B790 Ov789 => ?_)
      have ne_b639_b784 : b639 ≠ b784 := Nat.ne_of_lt (by rw [ex786]; exact f774.lt)
      have ne_b652_b784 : b652 ≠ b784 := Nat.ne_of_lt (by rw [ex786]; exact f775.lt)
      have ne_b668_b784 : b668 ≠ b784 := Nat.ne_of_lt (by rw [ex786]; exact f777.lt)
      have ne_b688_b784 : b688 ≠ b784 := Nat.ne_of_lt (by rw [ex786]; exact f779.lt)
      have ne_b723_b784 : b723 ≠ b784 := Nat.ne_of_lt (by rw [ex786]; exact f781.lt)
      have ne_ed752_b784 : ed752 ≠ b784 := Nat.ne_of_lt (by rw [ex786]; exact f782.lt)
      have ge_b784 : n0 ≤ b784 := by rw [ex786]; exact f773.1 ▸ f773.2.1
      have f791 := f773.ext E787
      have f792 := f774.ext E787
      have f793 := f775.ext E787
      have f794 := Nat.le_trans f776 E787.1
      have f795 := f777.ext E787
      have f796 := Nat.le_trans f778 E787.1
      have f797 := f779.ext E787
      have f798 := f780.ext E787
      have f799 := f781.ext E787
      have f800 := f782.ext E787
      have f801 := own_AL1_ext P769 E787
      have A802 : Arv Z h783 b784 kA785 (.object "com/example/strictwire/strictwire/I32Value") (2 : Int32) [.null, .null] .null := A788.pad (pad_rep [] .null 2)
      refine g_dup C (pc' := 144) at_143 rfl rfl rfl ?_
      refine g_iconst C (pc' := 145) (v := (0 : Int32)) at_144 (by decide) rfl ?_
      refine g_aload C (pc' := 147) at_145 rfl rfl rfl ?_
      refine g_aastore C (pc' := 148) at_147 rfl A802 rfl (stoR A802 Ov789 (Ins.self f792)) (by decide) (by decide) ge_b784 rfl (fun h803 W804 => ?_)
      have f805 := f791.wr W804 ge_b784
      have f806 := f792.wr W804
      have f807 := f793.wr W804
      have f808 := Nat.le_trans f794 (Keep.of_wr W804).1
      have f809 := f795.wr W804
      have f810 := Nat.le_trans f796 (Keep.of_wr W804).1
      have f811 := f797.other W804 ne_b688_b784
      have f812 := f798.wr W804
      have f813 := f799.wr W804
      have f814 := f800.wr W804
      have f815 := own_AL1_keep f801 (Keep.of_wr W804) (ninS ne_b723_b784 nin0) (ninS ne_ed752_b784 nin0)
      have f816 := (arv_put A802 rfl W804 (i := 0) rfl (Nat.le_of_ble_eq_true rfl) : Arv Z h803 b784 kA785 (.object "com/example/strictwire/strictwire/I32Value") (2 : Int32) [(.ref b639), .null] .null)
      have f817 := B790.wr W804
      refine g_dup C (pc' := 149) at_148 rfl rfl rfl ?_
      refine g_iconst C (pc' := 150) (v := (1 : Int32)) at_149 (by decide) rfl ?_
      refine g_aload C (pc' := 152) at_150 rfl rfl rfl ?_
      refine g_aastore C (pc' := 153) at_152 rfl f816 rfl (stoR f816 Ov789 (Ins.self f806)) (by decide) (by decide) ge_b784 rfl (fun h818 W819 => ?_)
      have f820 := f805.wr W819 ge_b784
      have f821 := f806.wr W819
      have f822 := f807.wr W819
      have f823 := Nat.le_trans f808 (Keep.of_wr W819).1
      have f824 := f809.wr W819
      have f825 := Nat.le_trans f810 (Keep.of_wr W819).1
      have f826 := f811.other W819 ne_b688_b784
      have f827 := f812.wr W819
      have f828 := f813.wr W819
      have f829 := f814.wr W819
      have f830 := own_AL1_keep f815 (Keep.of_wr W819) (ninS ne_b723_b784 nin0) (ninS ne_ed752_b784 nin0)
      have f831 := (arv_put f816 rfl W819 (i := 1) rfl (Nat.le_of_ble_eq_true rfl) : Arv Z h818 b784 kA785 (.object "com/example/strictwire/strictwire/I32Value") (2 : Int32) [(.ref b639), (.ref b639)] .null)
      have f832 := f817.wr W819
      refine g_goto C (pc' := 160) at_153 (by decide) rfl ?_
      refine g_astore C (pc' := 162) (Ls' := #[.val (.int p0), .val (.int p1), .val (.int p2), .val (.int p3), .val (.int p4), .val (.int p1.toInt16.toInt32), .val (.int b), .val (.int (1 : Int32)), .val (.ref b639), .val (.ref b652), .val (.ref b668), .val (.ref b688), .val (.ref b723), .val (.ref b784), .unset, .unset, .unset]) at_160 rfl rfl rfl rfl ?_
      refine g_iloadN C (pc' := 163) at_162 rfl rfl ?_
      refine g_ldcInt C (pc' := 165) (wd hw 65 rfl) at_163 rfl ?_
      refine g_iand C (pc' := 166) at_165 rfl rfl ?_
      refine g_iconst C (pc' := 167) (v := (5 : Int32)) at_166 (by decide) rfl ?_
      refine g_irem C (pc' := 168) at_167 rfl (by decide) rfl ?_
      rcases own_mod5 p0 with e5 | e5 | e5 | e5 | e5
      · rw [e5]
        refine g_istore C (pc' := 170) (Ls' := #[.val (.int p0), .val (.int p1), .val (.int p2), .val (.int p3), .val (.int p4), .val (.int p1.toInt16.toInt32), .val (.int b), .val (.int (1 : Int32)), .val (.ref b639), .val (.ref b652), .val (.ref b668), .val (.ref b688), .val (.ref b723), .val (.ref b784), .val (.int (0 : Int32)), .unset, .unset]) at_168 rfl rfl rfl ?_
        refine g_iload C (pc' := 172) at_170 rfl rfl ?_
        refine g_ifN C (pc' := 175) at_172 rfl (by decide) rfl ?_
        refine g_aload C (pc' := 177) at_175 rfl rfl rfl ?_
        refine g_callS C (pc' := 180) (k' := 12) (n' := 74) (argsL := [(.ref b688)]) (rest := []) (wd hw 66 rfl) (wd hw 67 rfl) (wd hw 68 rfl) (wd hw 69 rfl) (by decide) at_177 pd_4 rfl rfl rfl (ofL_1 l Z a0 hw n0 h818 f820 s_I32 s_DEF s_EL s_EA mr H b688) (Nat.le_of_ble_eq_true rfl) (Nat.le_of_ble_eq_true rfl) (Nat.le_of_ble_eq_true rfl) (Nat.le_of_ble_eq_true rfl) rfl rfl rfl (fun v839 h838 q840 => ?_)
        obtain ⟨vl833, rfl, q834, q835, q836, q837⟩ := q840
        have ne_b639_vl833 : b639 ≠ vl833 := Nat.ne_of_lt (Nat.lt_of_lt_of_le f821.lt q834)
        have ne_b652_vl833 : b652 ≠ vl833 := Nat.ne_of_lt (Nat.lt_of_lt_of_le f822.lt q834)
        have ne_b668_vl833 : b668 ≠ vl833 := Nat.ne_of_lt (Nat.lt_of_lt_of_le f824.lt q834)
        have ne_b688_vl833 : b688 ≠ vl833 := Nat.ne_of_lt (Nat.lt_of_lt_of_le f826.lt q834)
        have ne_b723_vl833 : b723 ≠ vl833 := Nat.ne_of_lt (Nat.lt_of_lt_of_le f828.lt q834)
        have ne_ed752_vl833 : ed752 ≠ vl833 := Nat.ne_of_lt (Nat.lt_of_lt_of_le f829.lt q834)
        have ne_b784_vl833 : b784 ≠ vl833 := Nat.ne_of_lt (Nat.lt_of_lt_of_le f831.lt q834)
        have ge_vl833 : n0 ≤ vl833 := Nat.le_trans (f820.1 ▸ f820.2.1) q834
        have f841 := f820.keep q835 all0
        have f842 := f821.keep q835
        have f843 := f822.keep q835
        have f844 := Nat.le_trans f823 q835.1
        have f845 := f824.keep q835
        have f846 := Nat.le_trans f825 q835.1
        have f847 := f826.keep q835 nin0
        have f848 := f827.keep q835
        have f849 := f828.keep q835
        have f850 := f829.keep q835
        have f851 := own_AL1_keep f830 q835 nin0 nin0
        have f852 := f831.keep q835 nin0
        have f853 := f832.keep q835
        show G w _ h838 12 74 180 #[.val (.int p0), .val (.int p1), .val (.int p2), .val (.int p3), .val (.int p4), .val (.int p1.toInt16.toInt32), .val (.int b), .val (.int (1 : Int32)), .val (.ref b639), .val (.ref b652), .val (.ref b668), .val (.ref b688), .val (.ref b723), .val (.ref b784), .val (.int (0 : Int32)), .unset, .unset] [(.ref vl833)]
        refine g_astore C (pc' := 182) (Ls' := #[.val (.int p0), .val (.int p1), .val (.int p2), .val (.int p3), .val (.int p4), .val (.int p1.toInt16.toInt32), .val (.int b), .val (.int (1 : Int32)), .val (.ref b639), .val (.ref b652), .val (.ref b668), .val (.ref b688), .val (.ref b723), .val (.ref b784), .val (.int (0 : Int32)), .val (.ref vl833), .unset]) at_180 rfl rfl rfl rfl ?_
        refine g_iconst C (pc' := 183) (v := (1 : Int32)) at_182 (by decide) rfl ?_
        refine g_istore C (pc' := 185) (Ls' := #[.val (.int p0), .val (.int p1), .val (.int p2), .val (.int p3), .val (.int p4), .val (.int p1.toInt16.toInt32), .val (.int b), .val (.int (1 : Int32)), .val (.ref b639), .val (.ref b652), .val (.ref b668), .val (.ref b688), .val (.ref b723), .val (.ref b784), .val (.int (0 : Int32)), .val (.ref vl833), .val (.int (1 : Int32))]) at_183 rfl rfl rfl ?_
        refine g_goto C (pc' := 260) at_185 (by decide) rfl ?_
        refine g_aload C (pc' := 262) at_260 rfl rfl rfl ?_
        refine g_callS C (pc' := 265) (k' := 12) (n' := 74) (argsL := [(.ref vl833)]) (rest := []) (wd hw 84 rfl) (wd hw 85 rfl) (wd hw 68 rfl) (wd hw 86 rfl) (by decide) at_262 pd_6 rfl rfl rfl (hd_1 l Z a0 hw n0 h838 f841 s_I32 s_DEF s_EL s_EA mr H vl833 q836 q837) (Nat.le_of_ble_eq_true rfl) (Nat.le_of_ble_eq_true rfl) (Nat.le_of_ble_eq_true rfl) (Nat.le_of_ble_eq_true rfl) rfl rfl rfl (fun v855 h854 q856 => ?_)
        obtain ⟨rfl, eh854⟩ := q856
        subst h854
        show G w _ h838 12 74 265 #[.val (.int p0), .val (.int p1), .val (.int p2), .val (.int p3), .val (.int p4), .val (.int p1.toInt16.toInt32), .val (.int b), .val (.int (1 : Int32)), .val (.ref b639), .val (.ref b652), .val (.ref b668), .val (.ref b688), .val (.ref b723), .val (.ref b784), .val (.int (0 : Int32)), .val (.ref vl833), .val (.int (1 : Int32))] [(.int (1 : Int32))]
        refine g_iload C (pc' := 267) at_265 rfl rfl ?_
        refine g_icN C (pc' := 270) at_267 rfl (by decide) rfl ?_
        refine g_iconst C (pc' := 271) (v := (1 : Int32)) at_270 (by decide) rfl ?_
        refine g_goto C (pc' := 275) at_271 (by decide) rfl ?_
        exact g_zreturn C at_275 rfl rfl (Nat.le_of_ble_eq_true rfl) (Nat.le_of_ble_eq_true rfl) (⟨⟨rfl, f844⟩, f846⟩)
      · rw [e5]
        refine g_istore C (pc' := 170) (Ls' := #[.val (.int p0), .val (.int p1), .val (.int p2), .val (.int p3), .val (.int p4), .val (.int p1.toInt16.toInt32), .val (.int b), .val (.int (1 : Int32)), .val (.ref b639), .val (.ref b652), .val (.ref b668), .val (.ref b688), .val (.ref b723), .val (.ref b784), .val (.int (1 : Int32)), .unset, .unset]) at_168 rfl rfl rfl ?_
        refine g_iload C (pc' := 172) at_170 rfl rfl ?_
        refine g_ifY C (pc' := 188) at_172 rfl (by decide) (by decide) rfl ?_
        refine g_iload C (pc' := 190) at_188 rfl rfl ?_
        refine g_iconst C (pc' := 191) (v := (1 : Int32)) at_190 (by decide) rfl ?_
        refine g_icN C (pc' := 194) at_191 rfl (by decide) rfl ?_
        refine g_aload C (pc' := 196) at_194 rfl rfl rfl ?_
        refine g_astore C (pc' := 198) (Ls' := #[.val (.int p0), .val (.int p1), .val (.int p2), .val (.int p3), .val (.int p4), .val (.int p1.toInt16.toInt32), .val (.int b), .val (.int (1 : Int32)), .val (.ref b639), .val (.ref b652), .val (.ref b668), .val (.ref b688), .val (.ref b723), .val (.ref b784), .val (.int (1 : Int32)), .val (.ref b723), .unset]) at_196 rfl rfl rfl rfl ?_
        refine g_iconst C (pc' := 199) (v := (0 : Int32)) at_198 (by decide) rfl ?_
        refine g_istore C (pc' := 201) (Ls' := #[.val (.int p0), .val (.int p1), .val (.int p2), .val (.int p3), .val (.int p4), .val (.int p1.toInt16.toInt32), .val (.int b), .val (.int (1 : Int32)), .val (.ref b639), .val (.ref b652), .val (.ref b668), .val (.ref b688), .val (.ref b723), .val (.ref b784), .val (.int (1 : Int32)), .val (.ref b723), .val (.int (0 : Int32))]) at_199 rfl rfl rfl ?_
        refine g_goto C (pc' := 260) at_201 (by decide) rfl ?_
        refine g_aload C (pc' := 262) at_260 rfl rfl rfl ?_
        refine g_callS C (pc' := 265) (k' := 11) (n' := 70) (argsL := [(.ref b723)]) (rest := []) (wd hw 84 rfl) (wd hw 85 rfl) (wd hw 68 rfl) (wd hw 86 rfl) (by decide) at_262 pd_6 rfl rfl rfl (hd_AL l Z a0 hw n0 h818 f820 s_I32 s_DEF s_EL s_EA mr H b723 f828) (Nat.le_of_ble_eq_true rfl) (Nat.le_of_ble_eq_true rfl) (Nat.le_of_ble_eq_true rfl) (Nat.le_of_ble_eq_true rfl) rfl rfl rfl (fun v858 h857 q859 => ?_)
        obtain ⟨rfl, eh857⟩ := q859
        subst h857
        show G w _ h818 11 70 265 #[.val (.int p0), .val (.int p1), .val (.int p2), .val (.int p3), .val (.int p4), .val (.int p1.toInt16.toInt32), .val (.int b), .val (.int (1 : Int32)), .val (.ref b639), .val (.ref b652), .val (.ref b668), .val (.ref b688), .val (.ref b723), .val (.ref b784), .val (.int (1 : Int32)), .val (.ref b723), .val (.int (0 : Int32))] [(.int (0 : Int32))]
        refine g_iload C (pc' := 267) at_265 rfl rfl ?_
        refine g_icN C (pc' := 270) at_267 rfl (by decide) rfl ?_
        refine g_iconst C (pc' := 271) (v := (1 : Int32)) at_270 (by decide) rfl ?_
        refine g_goto C (pc' := 275) at_271 (by decide) rfl ?_
        exact g_zreturn C at_275 rfl rfl (Nat.le_of_ble_eq_true rfl) (Nat.le_of_ble_eq_true rfl) (⟨⟨rfl, f823⟩, f825⟩)
      · rw [e5]
        refine g_istore C (pc' := 170) (Ls' := #[.val (.int p0), .val (.int p1), .val (.int p2), .val (.int p3), .val (.int p4), .val (.int p1.toInt16.toInt32), .val (.int b), .val (.int (1 : Int32)), .val (.ref b639), .val (.ref b652), .val (.ref b668), .val (.ref b688), .val (.ref b723), .val (.ref b784), .val (.int (2 : Int32)), .unset, .unset]) at_168 rfl rfl rfl ?_
        refine g_iload C (pc' := 172) at_170 rfl rfl ?_
        refine g_ifY C (pc' := 188) at_172 rfl (by decide) (by decide) rfl ?_
        refine g_iload C (pc' := 190) at_188 rfl rfl ?_
        refine g_iconst C (pc' := 191) (v := (1 : Int32)) at_190 (by decide) rfl ?_
        refine g_icY C (pc' := 204) at_191 rfl (by decide) (by decide) rfl ?_
        refine g_iload C (pc' := 206) at_204 rfl rfl ?_
        refine g_iconst C (pc' := 207) (v := (2 : Int32)) at_206 (by decide) rfl ?_
        refine g_icN C (pc' := 210) at_207 rfl (by decide) rfl ?_
        refine g_aload C (pc' := 212) at_210 rfl rfl rfl ?_
        refine g_aload C (pc' := 214) at_212 rfl rfl rfl ?_
        refine g_virtual C (pc' := 217) (k' := 11) (n' := 70) (argsL := []) (rest := [(.ref b784)]) (wd hw 128 rfl) (wd hw 129 rfl) (nfSel (wd hw 131 rfl)) (wd hw 131 rfl) (wd hw 130 rfl) (wd hw 2 rfl) (wd hw 132 rfl) (by decide) at_214 pd_13 rfl rfl rfl f821 (typ l Z a0 hw n0 h818 f820 s_I32 s_DEF s_EL s_EA mr H b639) (Nat.le_of_ble_eq_true rfl) (Nat.le_of_ble_eq_true rfl) (Nat.le_of_ble_eq_true rfl) (Nat.le_of_ble_eq_true rfl) rfl rfl rfl (fun v861 h860 q862 => ?_)
        obtain ⟨rfl, eh860⟩ := q862
        subst h860
        show G w _ h818 11 70 217 #[.val (.int p0), .val (.int p1), .val (.int p2), .val (.int p3), .val (.int p4), .val (.int p1.toInt16.toInt32), .val (.int b), .val (.int (1 : Int32)), .val (.ref b639), .val (.ref b652), .val (.ref b668), .val (.ref b688), .val (.ref b723), .val (.ref b784), .val (.int (2 : Int32)), .unset, .unset] [(.ref s_I32), (.ref b784)]
        refine g_callS C (pc' := 220) (k' := 12) (n' := 74) (argsL := [(.ref b784), (.ref s_I32)]) (rest := []) (wd hw 136 rfl) (wd hw 137 rfl) (wd hw 68 rfl) (wd hw 138 rfl) (by decide) at_217 pd_14 rfl rfl rfl (ofL_0 l Z a0 hw n0 h818 f820 s_I32 s_DEF s_EL s_EA mr H b784 s_I32) (Nat.le_of_ble_eq_true rfl) (Nat.le_of_ble_eq_true rfl) (Nat.le_of_ble_eq_true rfl) (Nat.le_of_ble_eq_true rfl) rfl rfl rfl (fun v869 h868 q870 => ?_)
        obtain ⟨vl863, rfl, q864, q865, q866, q867⟩ := q870
        have ne_b639_vl863 : b639 ≠ vl863 := Nat.ne_of_lt (Nat.lt_of_lt_of_le f821.lt q864)
        have ne_b652_vl863 : b652 ≠ vl863 := Nat.ne_of_lt (Nat.lt_of_lt_of_le f822.lt q864)
        have ne_b668_vl863 : b668 ≠ vl863 := Nat.ne_of_lt (Nat.lt_of_lt_of_le f824.lt q864)
        have ne_b688_vl863 : b688 ≠ vl863 := Nat.ne_of_lt (Nat.lt_of_lt_of_le f826.lt q864)
        have ne_b723_vl863 : b723 ≠ vl863 := Nat.ne_of_lt (Nat.lt_of_lt_of_le f828.lt q864)
        have ne_ed752_vl863 : ed752 ≠ vl863 := Nat.ne_of_lt (Nat.lt_of_lt_of_le f829.lt q864)
        have ne_b784_vl863 : b784 ≠ vl863 := Nat.ne_of_lt (Nat.lt_of_lt_of_le f831.lt q864)
        have ge_vl863 : n0 ≤ vl863 := Nat.le_trans (f820.1 ▸ f820.2.1) q864
        have f871 := f820.keep q865 all0
        have f872 := f821.keep q865
        have f873 := f822.keep q865
        have f874 := Nat.le_trans f823 q865.1
        have f875 := f824.keep q865
        have f876 := Nat.le_trans f825 q865.1
        have f877 := f826.keep q865 nin0
        have f878 := f827.keep q865
        have f879 := f828.keep q865
        have f880 := f829.keep q865
        have f881 := own_AL1_keep f830 q865 nin0 nin0
        have f882 := f831.keep q865 nin0
        have f883 := f832.keep q865
        show G w _ h868 12 74 220 #[.val (.int p0), .val (.int p1), .val (.int p2), .val (.int p3), .val (.int p4), .val (.int p1.toInt16.toInt32), .val (.int b), .val (.int (1 : Int32)), .val (.ref b639), .val (.ref b652), .val (.ref b668), .val (.ref b688), .val (.ref b723), .val (.ref b784), .val (.int (2 : Int32)), .unset, .unset] [(.ref vl863)]
        refine g_astore C (pc' := 222) (Ls' := #[.val (.int p0), .val (.int p1), .val (.int p2), .val (.int p3), .val (.int p4), .val (.int p1.toInt16.toInt32), .val (.int b), .val (.int (1 : Int32)), .val (.ref b639), .val (.ref b652), .val (.ref b668), .val (.ref b688), .val (.ref b723), .val (.ref b784), .val (.int (2 : Int32)), .val (.ref vl863), .unset]) at_220 rfl rfl rfl rfl ?_
        refine g_iconst C (pc' := 223) (v := (0 : Int32)) at_222 (by decide) rfl ?_
        refine g_istore C (pc' := 225) (Ls' := #[.val (.int p0), .val (.int p1), .val (.int p2), .val (.int p3), .val (.int p4), .val (.int p1.toInt16.toInt32), .val (.int b), .val (.int (1 : Int32)), .val (.ref b639), .val (.ref b652), .val (.ref b668), .val (.ref b688), .val (.ref b723), .val (.ref b784), .val (.int (2 : Int32)), .val (.ref vl863), .val (.int (0 : Int32))]) at_223 rfl rfl rfl ?_
        refine g_goto C (pc' := 260) at_225 (by decide) rfl ?_
        refine g_aload C (pc' := 262) at_260 rfl rfl rfl ?_
        refine g_callS C (pc' := 265) (k' := 12) (n' := 74) (argsL := [(.ref vl863)]) (rest := []) (wd hw 84 rfl) (wd hw 85 rfl) (wd hw 68 rfl) (wd hw 86 rfl) (by decide) at_262 pd_6 rfl rfl rfl (hd_0 l Z a0 hw n0 h868 f871 s_I32 s_DEF s_EL s_EA mr H vl863 q866 q867) (Nat.le_of_ble_eq_true rfl) (Nat.le_of_ble_eq_true rfl) (Nat.le_of_ble_eq_true rfl) (Nat.le_of_ble_eq_true rfl) rfl rfl rfl (fun v885 h884 q886 => ?_)
        obtain ⟨rfl, eh884⟩ := q886
        subst h884
        show G w _ h868 12 74 265 #[.val (.int p0), .val (.int p1), .val (.int p2), .val (.int p3), .val (.int p4), .val (.int p1.toInt16.toInt32), .val (.int b), .val (.int (1 : Int32)), .val (.ref b639), .val (.ref b652), .val (.ref b668), .val (.ref b688), .val (.ref b723), .val (.ref b784), .val (.int (2 : Int32)), .val (.ref vl863), .val (.int (0 : Int32))] [(.int (0 : Int32))]
        refine g_iload C (pc' := 267) at_265 rfl rfl ?_
        refine g_icN C (pc' := 270) at_267 rfl (by decide) rfl ?_
        refine g_iconst C (pc' := 271) (v := (1 : Int32)) at_270 (by decide) rfl ?_
        refine g_goto C (pc' := 275) at_271 (by decide) rfl ?_
        exact g_zreturn C at_275 rfl rfl (Nat.le_of_ble_eq_true rfl) (Nat.le_of_ble_eq_true rfl) (⟨⟨rfl, f874⟩, f876⟩)
      · rw [e5]
        refine g_istore C (pc' := 170) (Ls' := #[.val (.int p0), .val (.int p1), .val (.int p2), .val (.int p3), .val (.int p4), .val (.int p1.toInt16.toInt32), .val (.int b), .val (.int (1 : Int32)), .val (.ref b639), .val (.ref b652), .val (.ref b668), .val (.ref b688), .val (.ref b723), .val (.ref b784), .val (.int (3 : Int32)), .unset, .unset]) at_168 rfl rfl rfl ?_
        refine g_iload C (pc' := 172) at_170 rfl rfl ?_
        refine g_ifY C (pc' := 188) at_172 rfl (by decide) (by decide) rfl ?_
        refine g_iload C (pc' := 190) at_188 rfl rfl ?_
        refine g_iconst C (pc' := 191) (v := (1 : Int32)) at_190 (by decide) rfl ?_
        refine g_icY C (pc' := 204) at_191 rfl (by decide) (by decide) rfl ?_
        refine g_iload C (pc' := 206) at_204 rfl rfl ?_
        refine g_iconst C (pc' := 207) (v := (2 : Int32)) at_206 (by decide) rfl ?_
        refine g_icY C (pc' := 228) at_207 rfl (by decide) (by decide) rfl ?_
        refine g_iload C (pc' := 230) at_228 rfl rfl ?_
        refine g_iconst C (pc' := 231) (v := (3 : Int32)) at_230 (by decide) rfl ?_
        refine g_icN C (pc' := 234) at_231 rfl (by decide) rfl ?_
        refine g_aload C (pc' := 236) at_234 rfl rfl rfl ?_
        refine g_callS C (pc' := 239) (k' := 12) (n' := 74) (argsL := [(.ref b688)]) (rest := []) (wd hw 66 rfl) (wd hw 67 rfl) (wd hw 68 rfl) (wd hw 69 rfl) (by decide) at_236 pd_4 rfl rfl rfl (ofL_1 l Z a0 hw n0 h818 f820 s_I32 s_DEF s_EL s_EA mr H b688) (Nat.le_of_ble_eq_true rfl) (Nat.le_of_ble_eq_true rfl) (Nat.le_of_ble_eq_true rfl) (Nat.le_of_ble_eq_true rfl) rfl rfl rfl (fun v893 h892 q894 => ?_)
        obtain ⟨vl887, rfl, q888, q889, q890, q891⟩ := q894
        have ne_b639_vl887 : b639 ≠ vl887 := Nat.ne_of_lt (Nat.lt_of_lt_of_le f821.lt q888)
        have ne_b652_vl887 : b652 ≠ vl887 := Nat.ne_of_lt (Nat.lt_of_lt_of_le f822.lt q888)
        have ne_b668_vl887 : b668 ≠ vl887 := Nat.ne_of_lt (Nat.lt_of_lt_of_le f824.lt q888)
        have ne_b688_vl887 : b688 ≠ vl887 := Nat.ne_of_lt (Nat.lt_of_lt_of_le f826.lt q888)
        have ne_b723_vl887 : b723 ≠ vl887 := Nat.ne_of_lt (Nat.lt_of_lt_of_le f828.lt q888)
        have ne_ed752_vl887 : ed752 ≠ vl887 := Nat.ne_of_lt (Nat.lt_of_lt_of_le f829.lt q888)
        have ne_b784_vl887 : b784 ≠ vl887 := Nat.ne_of_lt (Nat.lt_of_lt_of_le f831.lt q888)
        have ge_vl887 : n0 ≤ vl887 := Nat.le_trans (f820.1 ▸ f820.2.1) q888
        have f895 := f820.keep q889 all0
        have f896 := f821.keep q889
        have f897 := f822.keep q889
        have f898 := Nat.le_trans f823 q889.1
        have f899 := f824.keep q889
        have f900 := Nat.le_trans f825 q889.1
        have f901 := f826.keep q889 nin0
        have f902 := f827.keep q889
        have f903 := f828.keep q889
        have f904 := f829.keep q889
        have f905 := own_AL1_keep f830 q889 nin0 nin0
        have f906 := f831.keep q889 nin0
        have f907 := f832.keep q889
        show G w _ h892 12 74 239 #[.val (.int p0), .val (.int p1), .val (.int p2), .val (.int p3), .val (.int p4), .val (.int p1.toInt16.toInt32), .val (.int b), .val (.int (1 : Int32)), .val (.ref b639), .val (.ref b652), .val (.ref b668), .val (.ref b688), .val (.ref b723), .val (.ref b784), .val (.int (3 : Int32)), .unset, .unset] [(.ref vl887)]
        refine g_callS C (pc' := 242) (k' := 12) (n' := 74) (argsL := [(.ref vl887)]) (rest := []) (wd hw 125 rfl) (wd hw 126 rfl) (wd hw 68 rfl) (wd hw 127 rfl) (by decide) at_239 pd_12 rfl rfl rfl (vco l Z a0 hw n0 h892 f895 s_I32 s_DEF s_EL s_EA mr H vl887 q890) (Nat.le_of_ble_eq_true rfl) (Nat.le_of_ble_eq_true rfl) (Nat.le_of_ble_eq_true rfl) (Nat.le_of_ble_eq_true rfl) rfl rfl rfl (fun v909 h908 q910 => ?_)
        obtain ⟨rfl, eh908⟩ := q910
        subst h908
        show G w _ h892 12 74 242 #[.val (.int p0), .val (.int p1), .val (.int p2), .val (.int p3), .val (.int p4), .val (.int p1.toInt16.toInt32), .val (.int b), .val (.int (1 : Int32)), .val (.ref b639), .val (.ref b652), .val (.ref b668), .val (.ref b688), .val (.ref b723), .val (.ref b784), .val (.int (3 : Int32)), .unset, .unset] [(.ref vl887)]
        refine g_astore C (pc' := 244) (Ls' := #[.val (.int p0), .val (.int p1), .val (.int p2), .val (.int p3), .val (.int p4), .val (.int p1.toInt16.toInt32), .val (.int b), .val (.int (1 : Int32)), .val (.ref b639), .val (.ref b652), .val (.ref b668), .val (.ref b688), .val (.ref b723), .val (.ref b784), .val (.int (3 : Int32)), .val (.ref vl887), .unset]) at_242 rfl rfl rfl rfl ?_
        refine g_iconst C (pc' := 245) (v := (1 : Int32)) at_244 (by decide) rfl ?_
        refine g_istore C (pc' := 247) (Ls' := #[.val (.int p0), .val (.int p1), .val (.int p2), .val (.int p3), .val (.int p4), .val (.int p1.toInt16.toInt32), .val (.int b), .val (.int (1 : Int32)), .val (.ref b639), .val (.ref b652), .val (.ref b668), .val (.ref b688), .val (.ref b723), .val (.ref b784), .val (.int (3 : Int32)), .val (.ref vl887), .val (.int (1 : Int32))]) at_245 rfl rfl rfl ?_
        refine g_goto C (pc' := 260) at_247 (by decide) rfl ?_
        refine g_aload C (pc' := 262) at_260 rfl rfl rfl ?_
        refine g_callS C (pc' := 265) (k' := 12) (n' := 74) (argsL := [(.ref vl887)]) (rest := []) (wd hw 84 rfl) (wd hw 85 rfl) (wd hw 68 rfl) (wd hw 86 rfl) (by decide) at_262 pd_6 rfl rfl rfl (hd_1 l Z a0 hw n0 h892 f895 s_I32 s_DEF s_EL s_EA mr H vl887 q890 q891) (Nat.le_of_ble_eq_true rfl) (Nat.le_of_ble_eq_true rfl) (Nat.le_of_ble_eq_true rfl) (Nat.le_of_ble_eq_true rfl) rfl rfl rfl (fun v912 h911 q913 => ?_)
        obtain ⟨rfl, eh911⟩ := q913
        subst h911
        show G w _ h892 12 74 265 #[.val (.int p0), .val (.int p1), .val (.int p2), .val (.int p3), .val (.int p4), .val (.int p1.toInt16.toInt32), .val (.int b), .val (.int (1 : Int32)), .val (.ref b639), .val (.ref b652), .val (.ref b668), .val (.ref b688), .val (.ref b723), .val (.ref b784), .val (.int (3 : Int32)), .val (.ref vl887), .val (.int (1 : Int32))] [(.int (1 : Int32))]
        refine g_iload C (pc' := 267) at_265 rfl rfl ?_
        refine g_icN C (pc' := 270) at_267 rfl (by decide) rfl ?_
        refine g_iconst C (pc' := 271) (v := (1 : Int32)) at_270 (by decide) rfl ?_
        refine g_goto C (pc' := 275) at_271 (by decide) rfl ?_
        exact g_zreturn C at_275 rfl rfl (Nat.le_of_ble_eq_true rfl) (Nat.le_of_ble_eq_true rfl) (⟨⟨rfl, f898⟩, f900⟩)
      · rw [e5]
        refine g_istore C (pc' := 170) (Ls' := #[.val (.int p0), .val (.int p1), .val (.int p2), .val (.int p3), .val (.int p4), .val (.int p1.toInt16.toInt32), .val (.int b), .val (.int (1 : Int32)), .val (.ref b639), .val (.ref b652), .val (.ref b668), .val (.ref b688), .val (.ref b723), .val (.ref b784), .val (.int (4 : Int32)), .unset, .unset]) at_168 rfl rfl rfl ?_
        refine g_iload C (pc' := 172) at_170 rfl rfl ?_
        refine g_ifY C (pc' := 188) at_172 rfl (by decide) (by decide) rfl ?_
        refine g_iload C (pc' := 190) at_188 rfl rfl ?_
        refine g_iconst C (pc' := 191) (v := (1 : Int32)) at_190 (by decide) rfl ?_
        refine g_icY C (pc' := 204) at_191 rfl (by decide) (by decide) rfl ?_
        refine g_iload C (pc' := 206) at_204 rfl rfl ?_
        refine g_iconst C (pc' := 207) (v := (2 : Int32)) at_206 (by decide) rfl ?_
        refine g_icY C (pc' := 228) at_207 rfl (by decide) (by decide) rfl ?_
        refine g_iload C (pc' := 230) at_228 rfl rfl ?_
        refine g_iconst C (pc' := 231) (v := (3 : Int32)) at_230 (by decide) rfl ?_
        refine g_icY C (pc' := 250) at_231 rfl (by decide) (by decide) rfl ?_
        refine g_aload C (pc' := 252) at_250 rfl rfl rfl ?_
        refine g_callS C (pc' := 255) (k' := 13) (n' := 74) (argsL := [(.ref b723)]) (rest := []) (wd hw 125 rfl) (wd hw 126 rfl) (wd hw 68 rfl) (wd hw 127 rfl) (by decide) at_252 pd_12 rfl rfl rfl (vco_2 l Z a0 hw n0 h818 f820 s_I32 s_DEF s_EL s_EA mr H b723 ed752 kE753 (((0 : Int32) + (1 : Int32)) + (1 : Int32)) b652 b668 f822 f824 f830) (Nat.le_of_ble_eq_true rfl) (Nat.le_of_ble_eq_true rfl) (Nat.le_of_ble_eq_true rfl) (Nat.le_of_ble_eq_true rfl) rfl rfl rfl (fun v919 h918 q920 => ?_)
        obtain ⟨L917, rfl, q914, q915, q916⟩ := q920
        have ne_b639_L917 : b639 ≠ L917 := Nat.ne_of_lt (Nat.lt_of_lt_of_le f821.lt q914)
        have ne_b652_L917 : b652 ≠ L917 := Nat.ne_of_lt (Nat.lt_of_lt_of_le f822.lt q914)
        have ne_b668_L917 : b668 ≠ L917 := Nat.ne_of_lt (Nat.lt_of_lt_of_le f824.lt q914)
        have ne_b688_L917 : b688 ≠ L917 := Nat.ne_of_lt (Nat.lt_of_lt_of_le f826.lt q914)
        have ne_b723_L917 : b723 ≠ L917 := Nat.ne_of_lt (Nat.lt_of_lt_of_le f828.lt q914)
        have ne_ed752_L917 : ed752 ≠ L917 := Nat.ne_of_lt (Nat.lt_of_lt_of_le f829.lt q914)
        have ne_b784_L917 : b784 ≠ L917 := Nat.ne_of_lt (Nat.lt_of_lt_of_le f831.lt q914)
        have ge_L917 : n0 ≤ L917 := Nat.le_trans (f820.1 ▸ f820.2.1) q914
        have f921 := f820.keep q915 all0
        have f922 := f821.keep q915
        have f923 := f822.keep q915
        have f924 := Nat.le_trans f823 q915.1
        have f925 := f824.keep q915
        have f926 := Nat.le_trans f825 q915.1
        have f927 := f826.keep q915 nin0
        have f928 := f827.keep q915
        have f929 := f828.keep q915
        have f930 := f829.keep q915
        have f931 := own_AL1_keep f830 q915 nin0 nin0
        have f932 := f831.keep q915 nin0
        have f933 := f832.keep q915
        show G w _ h918 13 74 255 #[.val (.int p0), .val (.int p1), .val (.int p2), .val (.int p3), .val (.int p4), .val (.int p1.toInt16.toInt32), .val (.int b), .val (.int (1 : Int32)), .val (.ref b639), .val (.ref b652), .val (.ref b668), .val (.ref b688), .val (.ref b723), .val (.ref b784), .val (.int (4 : Int32)), .unset, .unset] [(.ref L917)]
        refine g_astore C (pc' := 257) (Ls' := #[.val (.int p0), .val (.int p1), .val (.int p2), .val (.int p3), .val (.int p4), .val (.int p1.toInt16.toInt32), .val (.int b), .val (.int (1 : Int32)), .val (.ref b639), .val (.ref b652), .val (.ref b668), .val (.ref b688), .val (.ref b723), .val (.ref b784), .val (.int (4 : Int32)), .val (.ref L917), .unset]) at_255 rfl rfl rfl rfl ?_
        refine g_iconst C (pc' := 258) (v := (0 : Int32)) at_257 (by decide) rfl ?_
        refine g_istore C (pc' := 260) (Ls' := #[.val (.int p0), .val (.int p1), .val (.int p2), .val (.int p3), .val (.int p4), .val (.int p1.toInt16.toInt32), .val (.int b), .val (.int (1 : Int32)), .val (.ref b639), .val (.ref b652), .val (.ref b668), .val (.ref b688), .val (.ref b723), .val (.ref b784), .val (.int (4 : Int32)), .val (.ref L917), .val (.int (0 : Int32))]) at_258 rfl rfl rfl ?_
        refine g_aload C (pc' := 262) at_260 rfl rfl rfl ?_
        refine g_callS C (pc' := 265) (k' := 13) (n' := 74) (argsL := [(.ref L917)]) (rest := []) (wd hw 84 rfl) (wd hw 85 rfl) (wd hw 68 rfl) (wd hw 86 rfl) (by decide) at_262 pd_6 rfl rfl rfl (hd_L12 l Z a0 hw n0 h918 f921 s_I32 s_DEF s_EL s_EA mr H L917 q916) (Nat.le_of_ble_eq_true rfl) (Nat.le_of_ble_eq_true rfl) (Nat.le_of_ble_eq_true rfl) (Nat.le_of_ble_eq_true rfl) rfl rfl rfl (fun v935 h934 q936 => ?_)
        obtain ⟨rfl, eh934⟩ := q936
        subst h934
        show G w _ h918 13 74 265 #[.val (.int p0), .val (.int p1), .val (.int p2), .val (.int p3), .val (.int p4), .val (.int p1.toInt16.toInt32), .val (.int b), .val (.int (1 : Int32)), .val (.ref b639), .val (.ref b652), .val (.ref b668), .val (.ref b688), .val (.ref b723), .val (.ref b784), .val (.int (4 : Int32)), .val (.ref L917), .val (.int (0 : Int32))] [(.int (0 : Int32))]
        refine g_iload C (pc' := 267) at_265 rfl rfl ?_
        refine g_icN C (pc' := 270) at_267 rfl (by decide) rfl ?_
        refine g_iconst C (pc' := 271) (v := (1 : Int32)) at_270 (by decide) rfl ?_
        refine g_goto C (pc' := 275) at_271 (by decide) rfl ?_
        exact g_zreturn C at_275 rfl rfl (Nat.le_of_ble_eq_true rfl) (Nat.le_of_ble_eq_true rfl) (⟨⟨rfl, f924⟩, f926⟩)
  refine g_iload C (pc' := 10) at_8 rfl rfl ?_
  refine g_iload C (pc' := 12) at_10 rfl rfl ?_
  refine g_icB C (pcT := 22) (pc' := 15) at_12 rfl (by decide) rfl rfl (fun hc937 => ?_) (fun hc937 => ?_)
  · replace hc937 : ¬ p2.toInt16.toInt32 = p1.toInt16.toInt32 := hc937
    exact J22 _
  · replace hc937 : p2.toInt16.toInt32 = p1.toInt16.toInt32 := Decidable.not_not.mp hc937
    refine g_iload C (pc' := 17) at_15 rfl rfl ?_
    refine g_iconst C (pc' := 18) (v := (1 : Int32)) at_17 (by decide) rfl ?_
    refine g_iadd C (pc' := 19) at_18 rfl rfl ?_
    refine g_i2s C (pc' := 20) at_19 rfl rfl ?_
    refine g_istore C (pc' := 22) (Ls' := #[.val (.int p0), .val (.int p1), .val (.int p2), .val (.int p3), .val (.int p4), .val (.int p1.toInt16.toInt32), .val (.int (p1.toInt16.toInt32 + (1 : Int32)).toInt16.toInt32), .unset, .unset, .unset, .unset, .unset, .unset, .unset, .unset, .unset, .unset]) at_20 rfl rfl rfl ?_
    exact J22 _
set_option maxRecDepth 65536 in
set_option maxHeartbeats 40000000 in
theorem comes_1 {Post : Tables → Env → Array Value → State → Outcome → State → Prop} (hpost : ∀ tb e args s v u, (limb_1_1.after args s (.returned v) u = true ∧ limb_1_2.after args s (.returned v) u = true ∧ True) → ReturnedEndW s (.returned v) u (Jvm.fieldLocs frame_1_writes args s ++ Jvm.arrayLocs frame_1_arrays args s ++ Jvm.staticLocs frame_1_statics s) 32 1152 → Post tb e args s (.returned v) u) :
    ArmFor flags0 classFile x code maxLocals ret World_1 tables_1 room_1 Calls_1 rest_1 Pre_1 Post := by
  intro l hfl _ _ p e ha hc hk s m args below hf hA hF happ hP
  obtain ⟨hcalls, hrest, hpre⟩ := hP
  obtain ⟨-, -, -, hnamed, -, -, -, hat⟩ := (Spec.applies_iff hf).mp happ
  obtain ⟨hg, hn⟩ := and_e (Cond.before_iff.mp (show (Jvm.Cond.and given_1 narrow_1).before args s = true from hpre))
  obtain ⟨hga, hgb⟩ := and_e hg
  obtain ⟨hgba, hgbb⟩ := and_e hgb
  obtain ⟨hgbba, hgbbb⟩ := and_e hgbb
  obtain ⟨hgbbba, hgbbbb⟩ := and_e hgbbb
  obtain ⟨hgbbbba, hgbbbbb⟩ := and_e hgbbbb
  obtain ⟨w0, w1, w2, w3, w4, rfl⟩ : ∃ w0 w1 w2 w3 w4 : Value, args = #[w0, w1, w2, w3, w4] := by
    have hs : args.size = 5 := by simpa [Cond.value, given_1] using hga
    obtain ⟨L⟩ := args
    match L, hs with
    | [w0, w1, w2, w3, w4], _ => exact ⟨w0, w1, w2, w3, w4, rfl⟩
  have hw := fun d (hd : d ∈ tables_1) => atoms_spec (ws := Jvm.Cond.code x code maxLocals ret :: tables_1) hat d (List.mem_cons_of_mem _ hd)
  have hfit : Fit s := fun {y c} hc i hi => by
    obtain ⟨ha, rfl⟩ := Array.getElem?_eq_some_iff.mp hc
    have q := List.all_eq_true.mp ((Array.all_eq_true_iff_forall_mem.mp hF) _ (Array.getElem_mem ha)) i (List.mem_range.mpr hi)
    simpa [Array.getElem?_eq_getElem hi] using q
  obtain ⟨hsets, hown0⟩ := atoms_of _ (rest_1_c_eq ▸ (show rest_1_c.before _ s = true from hrest))
  obtain ⟨i0, ei0⟩ := is_v hgba
  obtain rfl : w0 = (.int i0) := Option.some.inj ei0
  obtain ⟨i1, ei1⟩ := is_v hgbba
  obtain rfl : w1 = (.int i1) := Option.some.inj ei1
  obtain ⟨i2, ei2⟩ := is_v hgbbba
  obtain rfl : w2 = (.int i2) := Option.some.inj ei2
  obtain ⟨i3, ei3⟩ := is_v hgbbbba
  obtain rfl : w3 = (.int i3) := Option.some.inj ei3
  obtain ⟨i4, ei4⟩ := is_v hgbbbbb
  obtain rfl : w4 = (.int i4) := Option.some.inj ei4
  obtain ⟨s_I32, ev_I32⟩ := exa_v hn
  have S_I32 := Sta.start ev_I32 (Or.inr ⟨(wd hw 134 rfl), (wd hw 135 rfl)⟩)
  have E_I32 := Exa.start ev_I32 hn
  obtain ⟨s_DEF, ev_DEF⟩ := exa_v (Cond.before_iff.mp (hsets _ (List.mem_of_getElem? (i := 7) rfl)))
  have S_DEF := Sta.start ev_DEF (Or.inr ⟨(wd hw 42 rfl), hsets _ (List.mem_of_getElem? (i := 2) rfl)⟩)
  have E_DEF := Exa.start ev_DEF (Cond.before_iff.mp (hsets _ (List.mem_of_getElem? (i := 7) rfl)))
  have V_DEF := own_emptyA (dv := .null) ev_DEF (Cond.before_iff.mp (hsets _ (List.mem_of_getElem? (i := 6) rfl))) (Cond.before_iff.mp (hsets _ (List.mem_of_getElem? (i := 8) rfl)))
  obtain ⟨s_EL, ev_EL⟩ := exa_v (Cond.before_iff.mp (hsets _ (List.mem_of_getElem? (i := 11) rfl)))
  have S_EL := Sta.start ev_EL (Or.inl (hsets _ (List.mem_of_getElem? (i := 10) rfl)))
  have E_EL := Exa.start ev_EL (Cond.before_iff.mp (hsets _ (List.mem_of_getElem? (i := 11) rfl)))
  obtain ⟨s_EA, ev_EA⟩ := exa_v (Cond.before_iff.mp (hsets _ (List.mem_of_getElem? (i := 13) rfl)))
  have F_EL := own_fldRef ev_EL ev_EA
  have V_EA := own_emptyA (dv := .null) ev_EA (Cond.before_iff.mp (hsets _ (List.mem_of_getElem? (i := 12) rfl))) (Cond.before_iff.mp (hsets _ (List.mem_of_getElem? (i := 14) rfl)))
  obtain ⟨mcl, mkl, mr, mm1, mm2, mm3, mm4⟩ := hcalls.1
  have MIR : Mir s "[Ljava/lang/Object;" mr := ⟨mcl, mkl, mm1, mm2, mm3, mm4⟩
  have H : En s s_I32 s_DEF s_EL s_EA mr := ⟨S_I32, E_I32, S_DEF, E_DEF, V_DEF, S_EL, E_EL, F_EL, V_EA, MIR⟩
  obtain ⟨n, o, h1, h2, h3, _, L, rfl, ⟨rfl, N⟩, hq⟩ := rm0 l s _ hw s.heap.size s.heap (Old.start s) s_I32 s_DEF s_EL s_EA mr H i0 i1 i2 i3 i4  tables_1 p e ha hc hk s m _ below hf ((Spec.applies_iff_loose hf).mp happ).1 ⟨rfl, State.Warmed39.refl s, rfl⟩ trivial
  refine ⟨n, _, h1, h2, h3, hpost _ _ _ _ _ _ ⟨Cond.after_iff.mpr rfl, Cond.after_iff.mpr (eq_i res_at (Term.int_eval (1)) rfl), trivial⟩ ⟨hq.1, hq.2.1, hq.2.2.1, (hq.2.2.2.sift fun y hy => Or.inr (N y hy)).mono (by decide) (by decide)⟩⟩
theorem main_1_1 : Claimed_1_1 := comes_1 fun _ _ _ _ _ _ h hF => ⟨h.1, hF⟩
theorem main_1_2 : Claimed_1_2 := comes_1 fun _ _ _ _ _ _ h hF => ⟨h.2.1, hF⟩
end Jvm.Pilot.@@N@@
namespace Jvm.Pilot.@@N@@
open Jvm Jvm.ClassFile Sem Op Lib Jvm.Free Jvm.Stand Jvm.Pilot.@@N@@.Jvm.D
/-! MADE BY PROGRAM (witnessworld.py) out of the Statement's table words and the real class files: 40 classes; the members and pool entries that the words name. The judged class is class 1, her method 1. -/
namespace start1
open Jvm.ClassFile
def u (s : String) : CpInfo := .utf8 (stringToUtf16 s)
/-- a pool by its gaps: so many unusable entries, then the entry; so many at the end -/
def gap : Nat → List CpInfo → List CpInfo
  | 0, r => r
  | n + 1, r => .unusable :: gap n r
def poolList (es : List (Nat × CpInfo)) (last : Nat) : List CpInfo := es.foldr (fun e r => gap e.1 (e.2 :: r)) (gap last [])
def pool (es : List (Nat × CpInfo)) (last : Nat) : Array CpInfo := ⟨poolList es last⟩
def fileOf (pool : Array CpInfo) (this : Nat) (attrs : Array Attribute := #[]) (ms : Array MethodInfo := #[]) (fl : Nat := 33) (sup : Nat := 0) (ifs : Array Nat := #[]) (fds : Array FieldInfo := #[]) : ClassFile where
  minorVersion := 0
  majorVersion := 65
  constantPool := pool
  accessFlags := fl
  thisClass := this
  superClass := sup
  interfaces := ifs
  fields := fds
  methods := ms
  attributes := attrs
def plain (name : String) (sup : Option ClassId) : Class where
  name := name
  kind := .ordinary
  loader := none
  accessFlags := 33
  super := sup
  interfaces := #[]
  cf := none
  fields := #[]
  methods := #[]
  instanceTypes := #[]
  staticTypes := #[]
  resolved := #[]
  callSites := []
  init := .initialized
  statics := none
  mirror := none

def pool0 : Array CpInfo := pool [(5, u "<init>"), (0, u "()V"), (1, .class_ 10), (1, u "java/lang/Object"), (0, u "getClass"), (0, u "()Ljava/lang/Class;")] 111

def k0c0 : Code := { maxStack := 0, maxLocals := 1, code := object_method_1_code, exceptionTable := #[], attributes := #[] }
def k0m0 : Method := { name := "<init>", desc := "()V", sig := { parameters := [], returnType := none }, accessFlags := 1, code := some k0c0 }
def k0m1 : Method := { name := "getClass", desc := "()Ljava/lang/Class;", sig := { parameters := [], returnType := some (.object "java/lang/Class") }, accessFlags := 273, code := none }
/-- java/lang/Object -/
def k0 : Class := { plain "java/lang/Object" none with
  accessFlags := 33
  interfaces := #[]
  cf := some (fileOf pool0 8 #[] #[{ accessFlags := 1, nameIndex := 5, descriptorIndex := 6, attributes := #[] }, { accessFlags := 273, nameIndex := 11, descriptorIndex := 12, attributes := #[] }] 33 0 #[] #[])
  fields := #[]
  methods := #[k0m0, k0m1]
  instanceTypes := #[]
  staticTypes := #[]
  resolved := Array.replicate 124 none
  statics := none }

def pool1 : Array CpInfo := pool [(2, .class_ 4), (0, .nameAndType 5 6), (0, u "java/lang/Object"), (0, u "<init>"), (0, u "()V"), (0, .class_ 8), (0, u "com/example/strictwire/strictwire/I32Value"), (0, .methodref 7 10), (0, .nameAndType 5 11), (0, u "(I)V"), (0, .class_ 13), (0, u "com/example/strictwire/strictwire/Field"), (0, .methodref 12 15), (0, .nameAndType 5 16), (0, u "(SLcom/example/strictwire/strictwire/Value;)V"), (0, .class_ 18), (0, u "java/util/ArrayList"), (0, .methodref 17 3), (0, .interfaceMethodref 21 22), (0, .class_ 23), (0, .nameAndType 24 25), (0, u "java/util/List"), (0, u "add"), (0, u "(Ljava/lang/Object;)Z"), (0, .integer 2147483647), (0, .methodref 28 29), (0, .class_ 30), (0, .nameAndType 31 32), (0, u "com/example/strictwire/strictwire/ValueList"), (0, u "ofFields"), (0, u "([Lcom/example/strictwire/strictwire/Field;)Lcom/example/strictwire/strictwire/ValueList;"), (0, .methodref 7 34), (0, .nameAndType 35 36), (0, u "type"), (0, u "()Lcom/example/strictwire/strictwire/WireType;"), (0, .methodref 28 38), (0, .nameAndType 39 40), (0, u "ofElements"), (0, u "([Lcom/example/strictwire/strictwire/Value;Lcom/example/strictwire/strictwire/WireType;)Lcom/example/strictwire/strictwire/ValueList;"), (0, .methodref 28 42), (0, .nameAndType 43 44), (0, u "copyOf"), (0, u "(Ljava/util/List;)Ljava/util/List;"), (0, .methodref 28 46), (0, .nameAndType 47 48), (0, u "hasDistinctIds"), (0, u "(Ljava/util/List;)Z"), (0, .class_ 50), (0, u "com/example/strictwire/strictwire/ValueListHasDistinctIdsPinLaw"), (2, u "law"), (0, u "(IIIII)Z")] 7

def k1m0 : Method := { name := "<init>", desc := "()V", sig := { parameters := [], returnType := none }, accessFlags := 2, code := none }
def k1c1 : Code := { maxStack := 4, maxLocals := 17, code := code, exceptionTable := #[], attributes := #[] }
def k1m1 : Method := { name := "law", desc := "(IIIII)Z", sig := { parameters := [.int, .int, .int, .int, .int], returnType := some .boolean }, accessFlags := 9, code := some k1c1 }
/-- com/example/strictwire/strictwire/ValueListHasDistinctIdsPinLaw -/
def k1 : Class := { plain "com/example/strictwire/strictwire/ValueListHasDistinctIdsPinLaw" (some 0) with
  accessFlags := 49
  interfaces := #[]
  cf := some (fileOf pool1 49 #[] #[{ accessFlags := 2, nameIndex := 5, descriptorIndex := 6, attributes := #[] }, { accessFlags := 9, nameIndex := 53, descriptorIndex := 54, attributes := #[] }] 49 2 #[] #[])
  fields := #[]
  methods := #[k1m0, k1m1]
  instanceTypes := #[]
  staticTypes := #[]
  resolved := Array.replicate 62 none
  statics := none }

def pool2 : Array CpInfo := pool [(1, .methodref 2 3), (0, .class_ 4), (0, .nameAndType 5 6), (0, u "java/lang/Object"), (0, u "<init>"), (0, u "()V"), (0, .class_ 8), (0, u "java/lang/Record")] 13

def k2c0 : Code := { maxStack := 1, maxLocals := 1, code := jdk_30_method_1_code, exceptionTable := #[], attributes := #[] }
def k2m0 : Method := { name := "<init>", desc := "()V", sig := { parameters := [], returnType := none }, accessFlags := 4, code := some k2c0 }
/-- java/lang/Record -/
def k2 : Class := { plain "java/lang/Record" (some 0) with
  accessFlags := 1057
  interfaces := #[]
  cf := some (fileOf pool2 7 #[] #[{ accessFlags := 4, nameIndex := 5, descriptorIndex := 6, attributes := #[] }] 1057 2 #[] #[])
  fields := #[]
  methods := #[k2m0]
  instanceTypes := #[]
  staticTypes := #[]
  resolved := Array.replicate 22 none
  statics := none }

def pool3 : Array CpInfo := pool [(1, .class_ 2), (0, u "com/example/strictwire/strictwire/Value"), (0, .class_ 4), (0, u "java/lang/Object")] 25

/-- com/example/strictwire/strictwire/Value -/
def k3 : Class := { plain "com/example/strictwire/strictwire/Value" (some 0) with
  accessFlags := 1537
  interfaces := #[]
  cf := some (fileOf pool3 1 #[] #[] 1537 3 #[] #[])
  fields := #[]
  methods := #[]
  instanceTypes := #[]
  staticTypes := #[]
  resolved := Array.replicate 30 none
  statics := none }

def pool4 : Array CpInfo := pool [(1, .methodref 2 3), (0, .class_ 4), (0, .nameAndType 5 6), (0, u "java/lang/Record"), (0, u "<init>"), (0, u "()V"), (0, .fieldref 8 9), (0, .class_ 10), (0, .nameAndType 11 12), (0, u "com/example/strictwire/strictwire/I32Value"), (0, u "value"), (0, u "I"), (0, .fieldref 14 15), (0, .class_ 16), (0, .nameAndType 17 18), (0, u "com/example/strictwire/strictwire/WireType"), (0, u "I32"), (0, u "Lcom/example/strictwire/strictwire/WireType;"), (12, .class_ 32), (0, u "com/example/strictwire/strictwire/Value"), (0, u "(I)V"), (3, u "type"), (0, u "()Lcom/example/strictwire/strictwire/WireType;")] 22

def k4c0 : Code := { maxStack := 2, maxLocals := 2, code := prog_15_method_1_code, exceptionTable := #[], attributes := #[] }
def k4m0 : Method := { name := "<init>", desc := "(I)V", sig := { parameters := [.int], returnType := none }, accessFlags := 1, code := some k4c0 }
def k4c1 : Code := { maxStack := 1, maxLocals := 1, code := prog_15_method_2_code, exceptionTable := #[], attributes := #[] }
def k4m1 : Method := { name := "type", desc := "()Lcom/example/strictwire/strictwire/WireType;", sig := { parameters := [], returnType := some (.object "com/example/strictwire/strictwire/WireType") }, accessFlags := 1, code := some k4c1 }
/-- com/example/strictwire/strictwire/I32Value -/
def k4 : Class := { plain "com/example/strictwire/strictwire/I32Value" (some 2) with
  accessFlags := 49
  interfaces := #[3]
  cf := some (fileOf pool4 8 #[] #[{ accessFlags := 1, nameIndex := 5, descriptorIndex := 33, attributes := #[] }, { accessFlags := 1, nameIndex := 37, descriptorIndex := 38, attributes := #[] }] 49 2 #[31] #[{ accessFlags := 18, nameIndex := 11, descriptorIndex := 12, attributes := #[] }])
  fields := #[{ name := "value", type := .int, accessFlags := 18, slot := 0, constantValue := 0 }]
  methods := #[k4m0, k4m1]
  instanceTypes := #[.int]
  staticTypes := #[]
  resolved := Array.replicate 61 none
  statics := none }

def pool5 : Array CpInfo := pool [(1, .methodref 2 3), (0, .class_ 4), (0, .nameAndType 5 6), (0, u "java/lang/Record"), (0, u "<init>"), (0, u "()V"), (0, .string 8), (0, u "value"), (0, .methodref 10 11), (0, .class_ 12), (0, .nameAndType 13 14), (0, u "java/util/Objects"), (0, u "requireNonNull"), (0, u "(Ljava/lang/Object;Ljava/lang/String;)Ljava/lang/Object;"), (0, .fieldref 16 17), (0, .class_ 18), (0, .nameAndType 19 20), (0, u "com/example/strictwire/strictwire/Field"), (0, u "id"), (0, u "S"), (0, .fieldref 16 22), (0, .nameAndType 8 23), (0, u "Lcom/example/strictwire/strictwire/Value;"), (12, u "(SLcom/example/strictwire/strictwire/Value;)V")] 29

def k5c0 : Code := { maxStack := 2, maxLocals := 3, code := prog_11_method_1_code, exceptionTable := #[], attributes := #[] }
def k5m0 : Method := { name := "<init>", desc := "(SLcom/example/strictwire/strictwire/Value;)V", sig := { parameters := [.short, (.object "com/example/strictwire/strictwire/Value")], returnType := none }, accessFlags := 1, code := some k5c0 }
/-- com/example/strictwire/strictwire/Field -/
def k5 : Class := { plain "com/example/strictwire/strictwire/Field" (some 2) with
  accessFlags := 49
  interfaces := #[]
  cf := some (fileOf pool5 16 #[] #[{ accessFlags := 1, nameIndex := 5, descriptorIndex := 36, attributes := #[] }] 49 2 #[] #[{ accessFlags := 18, nameIndex := 19, descriptorIndex := 20, attributes := #[] }, { accessFlags := 18, nameIndex := 8, descriptorIndex := 23, attributes := #[] }])
  fields := #[{ name := "id", type := .short, accessFlags := 18, slot := 0, constantValue := 0 }, { name := "value", type := (.object "com/example/strictwire/strictwire/Value"), accessFlags := 18, slot := 1, constantValue := 0 }]
  methods := #[k5m0]
  instanceTypes := #[.short, (.object "com/example/strictwire/strictwire/Value")]
  staticTypes := #[]
  resolved := Array.replicate 66 none
  statics := none }

def pool6 : Array CpInfo := pool [(1, .class_ 2), (0, u "java/io/Serializable"), (0, .class_ 4), (0, u "java/lang/Object")] 2

/-- java/io/Serializable -/
def k6 : Class := { plain "java/io/Serializable" (some 0) with
  accessFlags := 1537
  interfaces := #[]
  cf := some (fileOf pool6 1 #[] #[] 1537 3 #[] #[])
  fields := #[]
  methods := #[]
  instanceTypes := #[]
  staticTypes := #[]
  resolved := Array.replicate 7 none
  statics := none }

def pool7 : Array CpInfo := pool [(1, .class_ 2), (0, u "java/lang/Comparable"), (0, .class_ 4), (0, u "java/lang/Object")] 7

/-- java/lang/Comparable -/
def k7 : Class := { plain "java/lang/Comparable" (some 0) with
  accessFlags := 1537
  interfaces := #[]
  cf := some (fileOf pool7 1 #[] #[] 1537 3 #[] #[])
  fields := #[]
  methods := #[]
  instanceTypes := #[]
  staticTypes := #[]
  resolved := Array.replicate 12 none
  statics := none }

def pool8 : Array CpInfo := pool [(2, .class_ 4), (1, u "java/lang/CharSequence"), (42, .class_ 48), (0, u "java/lang/CharSequence$1CodePointIterator"), (10, .class_ 60), (0, u "java/lang/CharSequence$1CharIterator"), (5, .class_ 67), (0, u "java/lang/Object")] 63

/-- java/lang/CharSequence -/
def k8 : Class := { plain "java/lang/CharSequence" (some 0) with
  accessFlags := 1537
  interfaces := #[]
  cf := some (fileOf pool8 2 #[.nestMembers #[47, 59]] #[] 1537 66 #[] #[])
  fields := #[]
  methods := #[]
  instanceTypes := #[]
  staticTypes := #[]
  resolved := Array.replicate 131 none
  statics := none }

def pool9 : Array CpInfo := pool [(1, .class_ 2), (0, u "java/lang/constant/Constable"), (0, .class_ 4), (0, u "java/lang/Object")] 6

/-- java/lang/constant/Constable -/
def k9 : Class := { plain "java/lang/constant/Constable" (some 0) with
  accessFlags := 1537
  interfaces := #[]
  cf := some (fileOf pool9 1 #[] #[] 1537 3 #[] #[])
  fields := #[]
  methods := #[]
  instanceTypes := #[]
  staticTypes := #[]
  resolved := Array.replicate 11 none
  statics := none }

def pool10 : Array CpInfo := pool [(1, .class_ 2), (0, u "java/lang/constant/ConstantDesc"), (0, .class_ 4), (0, u "java/lang/Object")] 32

/-- java/lang/constant/ConstantDesc -/
def k10 : Class := { plain "java/lang/constant/ConstantDesc" (some 0) with
  accessFlags := 1537
  interfaces := #[]
  cf := some (fileOf pool10 1 #[] #[] 1537 3 #[] #[])
  fields := #[]
  methods := #[]
  instanceTypes := #[]
  staticTypes := #[]
  resolved := Array.replicate 37 none
  statics := none }

def pool11 : Array CpInfo := pool [(2, .class_ 4), (1, u "java/lang/Object"), (0, u "<init>"), (0, u "()V"), (3, .class_ 12), (1, u "java/lang/String"), (0, u "value"), (0, u "[B"), (2, u "coder"), (0, u "B"), (2, u "hash"), (0, u "I"), (2, u "hashIsZero"), (0, u "Z"), (13, u "COMPACT_STRINGS"), (534, .class_ 576), (0, u "java/lang/CharSequence"), (22, u "CASE_INSENSITIVE_ORDER"), (0, u "Ljava/util/Comparator;"), (500, u "serialPersistentFields"), (0, u "[Ljava/io/ObjectStreamField;"), (0, .class_ 1104), (0, u "java/lang/String$CaseInsensitiveComparator"), (1, .class_ 1107), (0, u "java/io/Serializable"), (0, .class_ 1109), (0, u "java/lang/Comparable"), (0, .class_ 1111), (0, u "java/lang/constant/Constable"), (0, .class_ 1113), (0, u "java/lang/constant/ConstantDesc"), (2, u "serialVersionUID"), (0, u "J"), (3, u "REPL"), (0, u "C"), (2, u "LATIN1"), (1, u "UTF16")] 323

def k11m0 : Method := { name := "<init>", desc := "()V", sig := { parameters := [], returnType := none }, accessFlags := 1, code := none }
/-- java/lang/String -/
def k11 : Class := { plain "java/lang/String" (some 0) with
  accessFlags := 49
  interfaces := #[6, 7, 8, 9, 10]
  cf := some (fileOf pool11 10 #[.nestMembers #[1103]] #[{ accessFlags := 1, nameIndex := 5, descriptorIndex := 6, attributes := #[] }] 49 2 #[1106, 1108, 575, 1110, 1112] #[{ accessFlags := 18, nameIndex := 13, descriptorIndex := 14, attributes := #[] }, { accessFlags := 18, nameIndex := 17, descriptorIndex := 18, attributes := #[] }, { accessFlags := 2, nameIndex := 21, descriptorIndex := 22, attributes := #[] }, { accessFlags := 2, nameIndex := 25, descriptorIndex := 26, attributes := #[] }, { accessFlags := 26, nameIndex := 1116, descriptorIndex := 1117, attributes := #[] }, { accessFlags := 24, nameIndex := 40, descriptorIndex := 26, attributes := #[] }, { accessFlags := 26, nameIndex := 1101, descriptorIndex := 1102, attributes := #[] }, { accessFlags := 26, nameIndex := 1121, descriptorIndex := 1122, attributes := #[] }, { accessFlags := 25, nameIndex := 599, descriptorIndex := 600, attributes := #[] }, { accessFlags := 24, nameIndex := 1125, descriptorIndex := 18, attributes := #[] }, { accessFlags := 24, nameIndex := 1127, descriptorIndex := 18, attributes := #[] }])
  fields := #[{ name := "value", type := (.array .byte), accessFlags := 18, slot := 0, constantValue := 0 }, { name := "coder", type := .byte, accessFlags := 18, slot := 1, constantValue := 0 }, { name := "hash", type := .int, accessFlags := 2, slot := 2, constantValue := 0 }, { name := "hashIsZero", type := .boolean, accessFlags := 2, slot := 3, constantValue := 0 }, { name := "serialVersionUID", type := .long, accessFlags := 26, slot := 0, constantValue := 0 }, { name := "COMPACT_STRINGS", type := .boolean, accessFlags := 24, slot := 1, constantValue := 0 }, { name := "serialPersistentFields", type := (.array (.object "java/io/ObjectStreamField")), accessFlags := 26, slot := 2, constantValue := 0 }, { name := "REPL", type := .char, accessFlags := 26, slot := 3, constantValue := 0 }, { name := "CASE_INSENSITIVE_ORDER", type := (.object "java/util/Comparator"), accessFlags := 25, slot := 4, constantValue := 0 }, { name := "LATIN1", type := .byte, accessFlags := 24, slot := 5, constantValue := 0 }, { name := "UTF16", type := .byte, accessFlags := 24, slot := 6, constantValue := 0 }]
  methods := #[k11m0]
  instanceTypes := #[(.array .byte), .byte, .int, .boolean]
  staticTypes := #[.long, .boolean, (.array (.object "java/io/ObjectStreamField")), .char, (.object "java/util/Comparator"), .byte, .byte]
  resolved := Array.replicate 1451 none
  statics := none }

def pool12 : Array CpInfo := pool [(2, .class_ 4), (1, u "java/lang/Object"), (0, u "<init>"), (0, u "()V"), (35, .class_ 44), (1, u "java/util/Objects"), (0, u "requireNonNull"), (0, u "(Ljava/lang/Object;)Ljava/lang/Object;"), (47, u "(Ljava/lang/Object;Ljava/lang/String;)Ljava/lang/Object;")] 89

def k12m0 : Method := { name := "<init>", desc := "()V", sig := { parameters := [], returnType := none }, accessFlags := 2, code := none }
def k12c1 : Code := { maxStack := 2, maxLocals := 1, code := jdk_31_method_10_code, exceptionTable := #[], attributes := #[] }
def k12m1 : Method := { name := "requireNonNull", desc := "(Ljava/lang/Object;)Ljava/lang/Object;", sig := { parameters := [(.object "java/lang/Object")], returnType := some (.object "java/lang/Object") }, accessFlags := 9, code := some k12c1 }
def k12c2 : Code := { maxStack := 3, maxLocals := 2, code := jdk_31_method_11_code, exceptionTable := #[], attributes := #[] }
def k12m2 : Method := { name := "requireNonNull", desc := "(Ljava/lang/Object;Ljava/lang/String;)Ljava/lang/Object;", sig := { parameters := [(.object "java/lang/Object"), (.object "java/lang/String")], returnType := some (.object "java/lang/Object") }, accessFlags := 9, code := some k12c2 }
/-- java/util/Objects -/
def k12 : Class := { plain "java/util/Objects" (some 0) with
  accessFlags := 49
  interfaces := #[]
  cf := some (fileOf pool12 42 #[] #[{ accessFlags := 2, nameIndex := 5, descriptorIndex := 6, attributes := #[] }, { accessFlags := 9, nameIndex := 45, descriptorIndex := 46, attributes := #[] }, { accessFlags := 9, nameIndex := 45, descriptorIndex := 94, attributes := #[] }] 49 2 #[] #[])
  fields := #[]
  methods := #[k12m0, k12m1, k12m2]
  instanceTypes := #[]
  staticTypes := #[]
  resolved := Array.replicate 184 none
  statics := none }

def pool13 : Array CpInfo := pool [(8, .class_ 10), (1, u "java/lang/Iterable"), (24, .class_ 36), (0, u "java/lang/Object")] 25

/-- java/lang/Iterable -/
def k13 : Class := { plain "java/lang/Iterable" (some 0) with
  accessFlags := 1537
  interfaces := #[]
  cf := some (fileOf pool13 8 #[] #[] 1537 35 #[] #[])
  fields := #[]
  methods := #[]
  instanceTypes := #[]
  staticTypes := #[]
  resolved := Array.replicate 62 none
  statics := none }

def pool14 : Array CpInfo := pool [(10, .class_ 12), (1, u "java/util/Collection"), (0, u "toArray"), (16, u "()Z"), (29, .class_ 61), (0, u "java/lang/Object"), (0, .class_ 63), (0, u "java/lang/Iterable"), (2, u "isEmpty"), (3, u "()[Ljava/lang/Object;")] 44

def k14m0 : Method := { name := "isEmpty", desc := "()Z", sig := { parameters := [], returnType := some .boolean }, accessFlags := 1025, code := none }
def k14m1 : Method := { name := "toArray", desc := "()[Ljava/lang/Object;", sig := { parameters := [], returnType := some (.array (.object "java/lang/Object")) }, accessFlags := 1025, code := none }
/-- java/util/Collection -/
def k14 : Class := { plain "java/util/Collection" (some 0) with
  accessFlags := 1537
  interfaces := #[13]
  cf := some (fileOf pool14 10 #[] #[{ accessFlags := 1025, nameIndex := 66, descriptorIndex := 30, attributes := #[] }, { accessFlags := 1025, nameIndex := 13, descriptorIndex := 70, attributes := #[] }] 1537 60 #[62] #[])
  fields := #[]
  methods := #[k14m0, k14m1]
  instanceTypes := #[]
  staticTypes := #[]
  resolved := Array.replicate 115 none
  statics := none }

def pool15 : Array CpInfo := pool [(1, .methodref 2 3), (0, .class_ 4), (0, .nameAndType 5 6), (0, u "java/lang/Object"), (0, u "<init>"), (0, u "()V"), (1, .class_ 10), (1, u "java/util/AbstractCollection"), (66, .class_ 78), (0, u "java/util/Collection")] 81

def k15c0 : Code := { maxStack := 1, maxLocals := 1, code := jdk_22_method_1_code, exceptionTable := #[], attributes := #[] }
def k15m0 : Method := { name := "<init>", desc := "()V", sig := { parameters := [], returnType := none }, accessFlags := 4, code := some k15c0 }
/-- java/util/AbstractCollection -/
def k15 : Class := { plain "java/util/AbstractCollection" (some 0) with
  accessFlags := 1057
  interfaces := #[14]
  cf := some (fileOf pool15 8 #[] #[{ accessFlags := 4, nameIndex := 5, descriptorIndex := 6, attributes := #[] }] 1057 2 #[77] #[])
  fields := #[]
  methods := #[k15m0]
  instanceTypes := #[]
  staticTypes := #[]
  resolved := Array.replicate 160 none
  statics := none }

def pool16 : Array CpInfo := pool [(8, .class_ 10), (1, u "java/util/SequencedCollection"), (15, .class_ 27), (0, u "java/lang/Object"), (0, .class_ 29), (0, u "java/util/Collection")] 27

/-- java/util/SequencedCollection -/
def k16 : Class := { plain "java/util/SequencedCollection" (some 0) with
  accessFlags := 1537
  interfaces := #[14]
  cf := some (fileOf pool16 8 #[] #[] 1537 26 #[28] #[])
  fields := #[]
  methods := #[]
  instanceTypes := #[]
  staticTypes := #[]
  resolved := Array.replicate 57 none
  statics := none }

def pool17 : Array CpInfo := pool [(8, .class_ 10), (1, u "java/util/List"), (37, u "<init>"), (11, u "add"), (3, u "(Ljava/lang/Object;)Z"), (23, u "of"), (1, .fieldref 91 92), (0, .class_ 93), (0, .nameAndType 94 95), (0, u "java/util/ImmutableCollections"), (0, u "EMPTY_LIST"), (0, u "Ljava/util/ImmutableCollections$ListN;"), (0, .class_ 97), (0, u "java/util/ImmutableCollections$List12"), (2, .methodref 96 101), (0, .nameAndType 48 102), (0, u "(Ljava/lang/Object;Ljava/lang/Object;)V"), (0, .class_ 104), (0, u "java/lang/Object"), (3, u "([Ljava/lang/Object;)Ljava/util/List;"), (3, .methodref 91 113), (0, .nameAndType 114 115), (0, u "listCopy"), (0, u "(Ljava/util/Collection;)Ljava/util/List;"), (3, u "()Ljava/util/List;"), (0, .class_ 121), (0, u "java/util/SequencedCollection"), (112, u "copyOf")] 16

def k17m0 : Method := { name := "add", desc := "(Ljava/lang/Object;)Z", sig := { parameters := [(.object "java/lang/Object")], returnType := some .boolean }, accessFlags := 1025, code := none }
def k17c1 : Code := { maxStack := 1, maxLocals := 0, code := jdk_40_method_36_code, exceptionTable := #[], attributes := #[] }
def k17m1 : Method := { name := "of", desc := "()Ljava/util/List;", sig := { parameters := [], returnType := some (.object "java/util/List") }, accessFlags := 9, code := some k17c1 }
def k17c2 : Code := { maxStack := 5, maxLocals := 2, code := jdk_40_method_47_code, exceptionTable := #[], attributes := #[] }
def k17m2 : Method := { name := "of", desc := "([Ljava/lang/Object;)Ljava/util/List;", sig := { parameters := [(.array (.object "java/lang/Object"))], returnType := some (.object "java/util/List") }, accessFlags := 137, code := some k17c2 }
def k17c3 : Code := { maxStack := 1, maxLocals := 1, code := jdk_40_method_48_code, exceptionTable := #[], attributes := #[] }
def k17m3 : Method := { name := "copyOf", desc := "(Ljava/util/Collection;)Ljava/util/List;", sig := { parameters := [(.object "java/util/Collection")], returnType := some (.object "java/util/List") }, accessFlags := 9, code := some k17c3 }
/-- java/util/List -/
def k17 : Class := { plain "java/util/List" (some 0) with
  accessFlags := 1537
  interfaces := #[16]
  cf := some (fileOf pool17 8 #[] #[{ accessFlags := 1025, nameIndex := 60, descriptorIndex := 64, attributes := #[] }, { accessFlags := 9, nameIndex := 88, descriptorIndex := 119, attributes := #[] }, { accessFlags := 137, nameIndex := 88, descriptorIndex := 108, attributes := #[] }, { accessFlags := 9, nameIndex := 234, descriptorIndex := 115, attributes := #[] }] 1537 103 #[120] #[])
  fields := #[]
  methods := #[k17m0, k17m1, k17m2, k17m3]
  instanceTypes := #[]
  staticTypes := #[]
  resolved := Array.replicate 251 none
  statics := none }

def pool18 : Array CpInfo := pool [(1, .methodref 2 3), (0, .class_ 4), (0, .nameAndType 5 6), (0, u "java/util/AbstractCollection"), (0, u "<init>"), (0, u "()V"), (0, .fieldref 8 9), (0, .class_ 10), (0, .nameAndType 11 12), (0, u "java/util/AbstractList"), (0, u "modCount"), (0, u "I"), (64, .class_ 78), (0, u "java/util/AbstractList$Itr"), (3, .class_ 83), (0, u "java/util/AbstractList$ListItr"), (9, .class_ 94), (0, u "java/util/AbstractList$RandomAccessSubList"), (3, .class_ 99), (0, u "java/util/AbstractList$SubList"), (33, .class_ 134), (0, u "java/util/List"), (73, .class_ 209), (0, u "java/util/AbstractList$SubList$1"), (0, .class_ 211), (0, u "java/util/AbstractList$RandomAccessSpliterator")] 6

def k18c0 : Code := { maxStack := 2, maxLocals := 1, code := jdk_39_method_1_code, exceptionTable := #[], attributes := #[] }
def k18m0 : Method := { name := "<init>", desc := "()V", sig := { parameters := [], returnType := none }, accessFlags := 4, code := some k18c0 }
/-- java/util/AbstractList -/
def k18 : Class := { plain "java/util/AbstractList" (some 15) with
  accessFlags := 1057
  interfaces := #[17]
  cf := some (fileOf pool18 8 #[.nestMembers #[93, 98, 208, 210, 82, 77]] #[{ accessFlags := 4, nameIndex := 5, descriptorIndex := 6, attributes := #[] }] 1057 2 #[133] #[{ accessFlags := 132, nameIndex := 11, descriptorIndex := 12, attributes := #[] }])
  fields := #[{ name := "modCount", type := .int, accessFlags := 132, slot := 0, constantValue := 0 }]
  methods := #[k18m0]
  instanceTypes := #[.int]
  staticTypes := #[]
  resolved := Array.replicate 218 none
  statics := none }

def pool19 : Array CpInfo := pool [(1, .class_ 2), (0, u "java/util/RandomAccess"), (0, .class_ 4), (0, u "java/lang/Object")] 2

/-- java/util/RandomAccess -/
def k19 : Class := { plain "java/util/RandomAccess" (some 0) with
  accessFlags := 1537
  interfaces := #[]
  cf := some (fileOf pool19 1 #[] #[] 1537 3 #[] #[])
  fields := #[]
  methods := #[]
  instanceTypes := #[]
  staticTypes := #[]
  resolved := Array.replicate 7 none
  statics := none }

def pool20 : Array CpInfo := pool [(1, .class_ 2), (0, u "java/lang/Cloneable"), (0, .class_ 4), (0, u "java/lang/Object")] 2

/-- java/lang/Cloneable -/
def k20 : Class := { plain "java/lang/Cloneable" (some 0) with
  accessFlags := 1537
  interfaces := #[]
  cf := some (fileOf pool20 1 #[] #[] 1537 3 #[] #[])
  fields := #[]
  methods := #[]
  instanceTypes := #[]
  staticTypes := #[]
  resolved := Array.replicate 7 none
  statics := none }

def pool21 : Array CpInfo := pool [(1, .methodref 2 3), (0, .class_ 4), (0, .nameAndType 5 6), (0, u "java/util/AbstractList"), (0, u "<init>"), (0, u "()V"), (0, .class_ 8), (0, u "java/lang/Object"), (0, .fieldref 10 11), (0, .class_ 12), (0, .nameAndType 13 14), (0, u "java/util/ArrayList"), (0, u "elementData"), (0, u "[Ljava/lang/Object;"), (2, u "EMPTY_ELEMENTDATA"), (21, .fieldref 10 40), (0, .nameAndType 41 14), (0, u "DEFAULTCAPACITY_EMPTY_ELEMENTDATA"), (4, u "toArray"), (0, u "()[Ljava/lang/Object;"), (0, .fieldref 10 49), (0, .nameAndType 50 51), (0, u "size"), (0, u "I"), (6, .class_ 60), (1, u "java/util/Arrays"), (0, u "copyOf"), (1, .fieldref 10 64), (0, .nameAndType 65 51), (0, u "modCount"), (0, .methodref 58 67), (0, .nameAndType 61 68), (0, u "([Ljava/lang/Object;I)[Ljava/lang/Object;"), (0, .methodref 10 70), (0, .nameAndType 71 72), (0, u "grow"), (0, u "(I)[Ljava/lang/Object;"), (6, .methodref 80 81), (0, .class_ 82), (0, .nameAndType 83 84), (0, u "java/lang/Math"), (0, u "max"), (0, u "(II)I"), (11, u "(Ljava/lang/Object;)Z"), (32, .methodref 10 130), (0, .nameAndType 71 47), (0, .methodref 10 132), (0, .nameAndType 133 134), (0, u "add"), (0, u "(Ljava/lang/Object;[Ljava/lang/Object;I)V"), (13, .class_ 149), (0, u "java/util/List"), (23, u "()Z"), (88, .class_ 263), (0, u "java/util/ArrayList$ListItr"), (3, .class_ 268), (0, u "java/util/ArrayList$Itr"), (7, .class_ 277), (0, u "java/util/ArrayList$SubList"), (12, .class_ 291), (0, u "java/util/ArrayList$ArrayListSpliterator"), (37, .class_ 330), (0, u "java/util/RandomAccess"), (0, .class_ 332), (0, u "java/lang/Cloneable"), (0, .class_ 334), (0, u "java/io/Serializable"), (0, u "serialVersionUID"), (0, u "J"), (3, u "DEFAULT_CAPACITY"), (22, u "isEmpty"), (136, .class_ 501), (0, u "java/util/ArrayList$SubList$2"), (0, .class_ 503), (0, u "java/util/ArrayList$SubList$1")] 5

def k21c0 : Code := { maxStack := 2, maxLocals := 1, code := jdk_38_method_2_code, exceptionTable := #[], attributes := #[] }
def k21m0 : Method := { name := "<init>", desc := "()V", sig := { parameters := [], returnType := none }, accessFlags := 1, code := some k21c0 }
def k21c1 : Code := { maxStack := 4, maxLocals := 4, code := jdk_38_method_6_code, exceptionTable := #[], attributes := #[] }
def k21m1 : Method := { name := "grow", desc := "(I)[Ljava/lang/Object;", sig := { parameters := [.int], returnType := some (.array (.object "java/lang/Object")) }, accessFlags := 2, code := some k21c1 }
def k21c2 : Code := { maxStack := 3, maxLocals := 1, code := jdk_38_method_7_code, exceptionTable := #[], attributes := #[] }
def k21m2 : Method := { name := "grow", desc := "()[Ljava/lang/Object;", sig := { parameters := [], returnType := some (.array (.object "java/lang/Object")) }, accessFlags := 2, code := some k21c2 }
def k21c3 : Code := { maxStack := 1, maxLocals := 1, code := jdk_38_method_9_code, exceptionTable := #[], attributes := #[] }
def k21m3 : Method := { name := "isEmpty", desc := "()Z", sig := { parameters := [], returnType := some .boolean }, accessFlags := 1, code := some k21c3 }
def k21c4 : Code := { maxStack := 2, maxLocals := 1, code := jdk_38_method_16_code, exceptionTable := #[], attributes := #[] }
def k21m4 : Method := { name := "toArray", desc := "()[Ljava/lang/Object;", sig := { parameters := [], returnType := some (.array (.object "java/lang/Object")) }, accessFlags := 1, code := some k21c4 }
def k21c5 : Code := { maxStack := 3, maxLocals := 4, code := jdk_38_method_24_code, exceptionTable := #[], attributes := #[] }
def k21m5 : Method := { name := "add", desc := "(Ljava/lang/Object;[Ljava/lang/Object;I)V", sig := { parameters := [(.object "java/lang/Object"), (.array (.object "java/lang/Object")), .int], returnType := none }, accessFlags := 2, code := some k21c5 }
def k21c6 : Code := { maxStack := 4, maxLocals := 2, code := jdk_38_method_25_code, exceptionTable := #[], attributes := #[] }
def k21m6 : Method := { name := "add", desc := "(Ljava/lang/Object;)Z", sig := { parameters := [(.object "java/lang/Object")], returnType := some .boolean }, accessFlags := 1, code := some k21c6 }
/-- java/util/ArrayList -/
def k21 : Class := { plain "java/util/ArrayList" (some 18) with
  accessFlags := 33
  interfaces := #[17, 19, 20, 6]
  cf := some (fileOf pool21 10 #[.nestMembers #[290, 276, 500, 502, 262, 267]] #[{ accessFlags := 1, nameIndex := 5, descriptorIndex := 6, attributes := #[] }, { accessFlags := 2, nameIndex := 71, descriptorIndex := 72, attributes := #[] }, { accessFlags := 2, nameIndex := 71, descriptorIndex := 47, attributes := #[] }, { accessFlags := 1, nameIndex := 363, descriptorIndex := 173, attributes := #[] }, { accessFlags := 1, nameIndex := 46, descriptorIndex := 47, attributes := #[] }, { accessFlags := 2, nameIndex := 133, descriptorIndex := 134, attributes := #[] }, { accessFlags := 1, nameIndex := 133, descriptorIndex := 96, attributes := #[] }] 33 2 #[148, 329, 331, 333] #[{ accessFlags := 26, nameIndex := 335, descriptorIndex := 336, attributes := #[] }, { accessFlags := 26, nameIndex := 340, descriptorIndex := 51, attributes := #[] }, { accessFlags := 26, nameIndex := 17, descriptorIndex := 14, attributes := #[] }, { accessFlags := 26, nameIndex := 41, descriptorIndex := 14, attributes := #[] }, { accessFlags := 128, nameIndex := 13, descriptorIndex := 14, attributes := #[] }, { accessFlags := 2, nameIndex := 50, descriptorIndex := 51, attributes := #[] }])
  fields := #[{ name := "serialVersionUID", type := .long, accessFlags := 26, slot := 0, constantValue := 0 }, { name := "DEFAULT_CAPACITY", type := .int, accessFlags := 26, slot := 1, constantValue := 0 }, { name := "EMPTY_ELEMENTDATA", type := (.array (.object "java/lang/Object")), accessFlags := 26, slot := 2, constantValue := 0 }, { name := "DEFAULTCAPACITY_EMPTY_ELEMENTDATA", type := (.array (.object "java/lang/Object")), accessFlags := 26, slot := 3, constantValue := 0 }, { name := "elementData", type := (.array (.object "java/lang/Object")), accessFlags := 128, slot := 1, constantValue := 0 }, { name := "size", type := .int, accessFlags := 2, slot := 2, constantValue := 0 }]
  methods := #[k21m0, k21m1, k21m2, k21m3, k21m4, k21m5, k21m6]
  instanceTypes := #[.int, (.array (.object "java/lang/Object")), .int]
  staticTypes := #[.long, .int, (.array (.object "java/lang/Object")), (.array (.object "java/lang/Object"))]
  resolved := Array.replicate 509 none
  statics := some 0 }

def pool22 : Array CpInfo := pool [(1, .methodref 2 3), (0, .class_ 4), (0, .nameAndType 5 6), (0, u "java/util/AbstractList"), (0, u "<init>"), (0, u "()V"), (0, .fieldref 8 9), (0, .class_ 10), (0, .nameAndType 11 12), (0, u "com/example/strictwire/strictwire/ValueList"), (0, u "elements"), (0, u "[Ljava/lang/Object;"), (0, .fieldref 8 14), (0, .nameAndType 15 16), (0, u "distinctIds"), (0, u "Z"), (0, .fieldref 8 18), (0, .nameAndType 19 20), (0, u "elementType"), (0, u "Lcom/example/strictwire/strictwire/WireType;"), (0, .methodref 8 22), (0, .nameAndType 5 23), (0, u "([Ljava/lang/Object;ZLcom/example/strictwire/strictwire/WireType;)V"), (0, .interfaceMethodref 25 26), (0, .class_ 27), (0, .nameAndType 28 29), (0, u "java/util/List"), (0, u "copyOf"), (0, u "(Ljava/util/Collection;)Ljava/util/List;"), (0, .class_ 31), (0, u "java/util/RandomAccess"), (5, u "ofFields"), (0, u "([Lcom/example/strictwire/strictwire/Field;)Lcom/example/strictwire/strictwire/ValueList;"), (1, u "ofElements"), (0, u "([Lcom/example/strictwire/strictwire/Value;Lcom/example/strictwire/strictwire/WireType;)Lcom/example/strictwire/strictwire/ValueList;"), (4, u "(Ljava/util/List;)Ljava/util/List;"), (2, u "hasDistinctIds"), (0, u "(Ljava/util/List;)Z")] 18

def k22c0 : Code := { maxStack := 2, maxLocals := 4, code := prog_38_method_1_code, exceptionTable := #[], attributes := #[] }
def k22m0 : Method := { name := "<init>", desc := "([Ljava/lang/Object;ZLcom/example/strictwire/strictwire/WireType;)V", sig := { parameters := [(.array (.object "java/lang/Object")), .boolean, (.object "com/example/strictwire/strictwire/WireType")], returnType := none }, accessFlags := 2, code := some k22c0 }
def k22c1 : Code := { maxStack := 5, maxLocals := 1, code := prog_38_method_2_code, exceptionTable := #[], attributes := #[] }
def k22m1 : Method := { name := "ofFields", desc := "([Lcom/example/strictwire/strictwire/Field;)Lcom/example/strictwire/strictwire/ValueList;", sig := { parameters := [(.array (.object "com/example/strictwire/strictwire/Field"))], returnType := some (.object "com/example/strictwire/strictwire/ValueList") }, accessFlags := 8, code := some k22c1 }
def k22c2 : Code := { maxStack := 5, maxLocals := 2, code := prog_38_method_3_code, exceptionTable := #[], attributes := #[] }
def k22m2 : Method := { name := "ofElements", desc := "([Lcom/example/strictwire/strictwire/Value;Lcom/example/strictwire/strictwire/WireType;)Lcom/example/strictwire/strictwire/ValueList;", sig := { parameters := [(.array (.object "com/example/strictwire/strictwire/Value")), (.object "com/example/strictwire/strictwire/WireType")], returnType := some (.object "com/example/strictwire/strictwire/ValueList") }, accessFlags := 8, code := some k22c2 }
def k22c3 : Code := { maxStack := 1, maxLocals := 2, code := prog_38_method_5_code, exceptionTable := #[], attributes := #[] }
def k22m3 : Method := { name := "copyOf", desc := "(Ljava/util/List;)Ljava/util/List;", sig := { parameters := [(.object "java/util/List")], returnType := some (.object "java/util/List") }, accessFlags := 8, code := some k22c3 }
def k22c4 : Code := { maxStack := 1, maxLocals := 2, code := prog_38_method_6_code, exceptionTable := #[], attributes := #[] }
def k22m4 : Method := { name := "hasDistinctIds", desc := "(Ljava/util/List;)Z", sig := { parameters := [(.object "java/util/List")], returnType := some .boolean }, accessFlags := 8, code := some k22c4 }
/-- com/example/strictwire/strictwire/ValueList -/
def k22 : Class := { plain "com/example/strictwire/strictwire/ValueList" (some 18) with
  accessFlags := 48
  interfaces := #[19]
  cf := some (fileOf pool22 8 #[] #[{ accessFlags := 2, nameIndex := 5, descriptorIndex := 23, attributes := #[] }, { accessFlags := 8, nameIndex := 37, descriptorIndex := 38, attributes := #[] }, { accessFlags := 8, nameIndex := 40, descriptorIndex := 41, attributes := #[] }, { accessFlags := 8, nameIndex := 28, descriptorIndex := 46, attributes := #[] }, { accessFlags := 8, nameIndex := 49, descriptorIndex := 50, attributes := #[] }] 48 2 #[30] #[{ accessFlags := 18, nameIndex := 11, descriptorIndex := 12, attributes := #[] }, { accessFlags := 18, nameIndex := 15, descriptorIndex := 16, attributes := #[] }, { accessFlags := 18, nameIndex := 19, descriptorIndex := 20, attributes := #[] }])
  fields := #[{ name := "elements", type := (.array (.object "java/lang/Object")), accessFlags := 18, slot := 1, constantValue := 0 }, { name := "distinctIds", type := .boolean, accessFlags := 18, slot := 2, constantValue := 0 }, { name := "elementType", type := (.object "com/example/strictwire/strictwire/WireType"), accessFlags := 18, slot := 3, constantValue := 0 }]
  methods := #[k22m0, k22m1, k22m2, k22m3, k22m4]
  instanceTypes := #[.int, (.array (.object "java/lang/Object")), .boolean, (.object "com/example/strictwire/strictwire/WireType")]
  staticTypes := #[]
  resolved := Array.replicate 69 none
  statics := none }

def pool23 : Array CpInfo := pool [(1, .class_ 2), (0, u "java/lang/Math"), (1, .class_ 6), (1, u "java/lang/Object"), (0, u "<init>"), (0, u "()V"), (89, .class_ 100), (1, u "java/lang/Math$RandomNumberGeneratorHolder"), (71, u "negativeZeroFloatBits"), (0, u "J"), (2, u "negativeZeroDoubleBits"), (21, u "max"), (2, u "min"), (43, u "$assertionsDisabled"), (0, u "Z"), (88, u "(II)I"), (2, u "twoToTheDoubleScaleDown"), (0, u "D"), (4, u "twoToTheDoubleScaleUp"), (9, u "E"), (3, u "PI"), (2, u "TAU"), (2, u "DEGREES_TO_RADIANS"), (0, u "RADIANS_TO_DEGREES")] 94

def k23m0 : Method := { name := "<init>", desc := "()V", sig := { parameters := [], returnType := none }, accessFlags := 2, code := none }
def k23c1 : Code := { maxStack := 2, maxLocals := 2, code := jdk_29_method_65_code, exceptionTable := #[], attributes := #[] }
def k23m1 : Method := { name := "max", desc := "(II)I", sig := { parameters := [.int, .int], returnType := some .int }, accessFlags := 9, code := some k23c1 }
def k23c2 : Code := { maxStack := 2, maxLocals := 2, code := jdk_29_method_69_code, exceptionTable := #[], attributes := #[] }
def k23m2 : Method := { name := "min", desc := "(II)I", sig := { parameters := [.int, .int], returnType := some .int }, accessFlags := 9, code := some k23c2 }
/-- java/lang/Math -/
def k23 : Class := { plain "java/lang/Math" (some 0) with
  accessFlags := 49
  interfaces := #[]
  cf := some (fileOf pool23 1 #[.nestMembers #[98]] #[{ accessFlags := 2, nameIndex := 7, descriptorIndex := 8, attributes := #[] }, { accessFlags := 9, nameIndex := 198, descriptorIndex := 335, attributes := #[] }, { accessFlags := 9, nameIndex := 201, descriptorIndex := 335, attributes := #[] }] 49 4 #[] #[{ accessFlags := 25, nameIndex := 354, descriptorIndex := 339, attributes := #[] }, { accessFlags := 25, nameIndex := 358, descriptorIndex := 339, attributes := #[] }, { accessFlags := 25, nameIndex := 361, descriptorIndex := 339, attributes := #[] }, { accessFlags := 26, nameIndex := 364, descriptorIndex := 339, attributes := #[] }, { accessFlags := 26, nameIndex := 365, descriptorIndex := 339, attributes := #[] }, { accessFlags := 26, nameIndex := 172, descriptorIndex := 173, attributes := #[] }, { accessFlags := 26, nameIndex := 176, descriptorIndex := 173, attributes := #[] }, { accessFlags := 8, nameIndex := 344, descriptorIndex := 339, attributes := #[] }, { accessFlags := 8, nameIndex := 338, descriptorIndex := 339, attributes := #[] }, { accessFlags := 4120, nameIndex := 245, descriptorIndex := 246, attributes := #[] }])
  fields := #[{ name := "E", type := .double, accessFlags := 25, slot := 0, constantValue := 0 }, { name := "PI", type := .double, accessFlags := 25, slot := 1, constantValue := 0 }, { name := "TAU", type := .double, accessFlags := 25, slot := 2, constantValue := 0 }, { name := "DEGREES_TO_RADIANS", type := .double, accessFlags := 26, slot := 3, constantValue := 0 }, { name := "RADIANS_TO_DEGREES", type := .double, accessFlags := 26, slot := 4, constantValue := 0 }, { name := "negativeZeroFloatBits", type := .long, accessFlags := 26, slot := 5, constantValue := 0 }, { name := "negativeZeroDoubleBits", type := .long, accessFlags := 26, slot := 6, constantValue := 0 }, { name := "twoToTheDoubleScaleUp", type := .double, accessFlags := 8, slot := 7, constantValue := 0 }, { name := "twoToTheDoubleScaleDown", type := .double, accessFlags := 8, slot := 8, constantValue := 0 }, { name := "$assertionsDisabled", type := .boolean, accessFlags := 4120, slot := 9, constantValue := 0 }]
  methods := #[k23m0, k23m1, k23m2]
  instanceTypes := #[]
  staticTypes := #[.double, .double, .double, .double, .double, .long, .long, .double, .double, .boolean]
  resolved := Array.replicate 460 none
  statics := none }

def pool24 : Array CpInfo := pool [(2, .class_ 4), (1, u "java/lang/Enum"), (0, u "name"), (0, u "Ljava/lang/String;"), (2, u "ordinal"), (0, u "I"), (1, .class_ 14), (1, u "java/lang/Object"), (4, u "hash"), (86, .class_ 108), (1, u "java/lang/Enum$EnumDesc"), (2, .class_ 112), (0, u "java/lang/constant/Constable"), (0, .class_ 114), (0, u "java/lang/Comparable"), (0, .class_ 116), (0, u "java/io/Serializable")] 87

/-- java/lang/Enum -/
def k24 : Class := { plain "java/lang/Enum" (some 0) with
  accessFlags := 1057
  interfaces := #[9, 7, 6]
  cf := some (fileOf pool24 2 #[.nestMembers #[106]] #[] 1057 12 #[111, 113, 115] #[{ accessFlags := 18, nameIndex := 5, descriptorIndex := 6, attributes := #[] }, { accessFlags := 18, nameIndex := 9, descriptorIndex := 10, attributes := #[] }, { accessFlags := 2, nameIndex := 19, descriptorIndex := 10, attributes := #[] }])
  fields := #[{ name := "name", type := (.object "java/lang/String"), accessFlags := 18, slot := 0, constantValue := 0 }, { name := "ordinal", type := .int, accessFlags := 18, slot := 1, constantValue := 0 }, { name := "hash", type := .int, accessFlags := 2, slot := 2, constantValue := 0 }]
  methods := #[]
  instanceTypes := #[(.object "java/lang/String"), .int, .int]
  staticTypes := #[]
  resolved := Array.replicate 204 none
  statics := none }

def pool25 : Array CpInfo := pool [(1, .class_ 2), (0, u "com/example/strictwire/strictwire/WireType"), (2, u "BOOL"), (0, u "Lcom/example/strictwire/strictwire/WireType;"), (2, u "BYTE"), (2, u "DOUBLE"), (2, u "I16"), (2, u "I32"), (2, u "I64"), (2, u "STRING"), (2, u "STRUCT"), (2, u "MAP"), (2, u "SET"), (2, u "LIST"), (2, u "$VALUES"), (0, u "[Lcom/example/strictwire/strictwire/WireType;"), (6, .class_ 49), (1, u "java/lang/Enum"), (8, u "code"), (0, u "B"), (2, u "typeName"), (0, u "Ljava/lang/String;"), (2, u "BY_CODE")] 68

/-- com/example/strictwire/strictwire/WireType -/
def k25 : Class := { plain "com/example/strictwire/strictwire/WireType" (some 24) with
  accessFlags := 16433
  interfaces := #[]
  cf := some (fileOf pool25 1 #[] #[] 16433 47 #[] #[{ accessFlags := 16409, nameIndex := 5, descriptorIndex := 6, attributes := #[] }, { accessFlags := 16409, nameIndex := 9, descriptorIndex := 6, attributes := #[] }, { accessFlags := 16409, nameIndex := 12, descriptorIndex := 6, attributes := #[] }, { accessFlags := 16409, nameIndex := 15, descriptorIndex := 6, attributes := #[] }, { accessFlags := 16409, nameIndex := 18, descriptorIndex := 6, attributes := #[] }, { accessFlags := 16409, nameIndex := 21, descriptorIndex := 6, attributes := #[] }, { accessFlags := 16409, nameIndex := 24, descriptorIndex := 6, attributes := #[] }, { accessFlags := 16409, nameIndex := 27, descriptorIndex := 6, attributes := #[] }, { accessFlags := 16409, nameIndex := 30, descriptorIndex := 6, attributes := #[] }, { accessFlags := 16409, nameIndex := 33, descriptorIndex := 6, attributes := #[] }, { accessFlags := 16409, nameIndex := 36, descriptorIndex := 6, attributes := #[] }, { accessFlags := 26, nameIndex := 66, descriptorIndex := 40, attributes := #[] }, { accessFlags := 18, nameIndex := 58, descriptorIndex := 59, attributes := #[] }, { accessFlags := 18, nameIndex := 62, descriptorIndex := 63, attributes := #[] }, { accessFlags := 4122, nameIndex := 39, descriptorIndex := 40, attributes := #[] }])
  fields := #[{ name := "BOOL", type := (.object "com/example/strictwire/strictwire/WireType"), accessFlags := 16409, slot := 0, constantValue := 0 }, { name := "BYTE", type := (.object "com/example/strictwire/strictwire/WireType"), accessFlags := 16409, slot := 1, constantValue := 0 }, { name := "DOUBLE", type := (.object "com/example/strictwire/strictwire/WireType"), accessFlags := 16409, slot := 2, constantValue := 0 }, { name := "I16", type := (.object "com/example/strictwire/strictwire/WireType"), accessFlags := 16409, slot := 3, constantValue := 0 }, { name := "I32", type := (.object "com/example/strictwire/strictwire/WireType"), accessFlags := 16409, slot := 4, constantValue := 0 }, { name := "I64", type := (.object "com/example/strictwire/strictwire/WireType"), accessFlags := 16409, slot := 5, constantValue := 0 }, { name := "STRING", type := (.object "com/example/strictwire/strictwire/WireType"), accessFlags := 16409, slot := 6, constantValue := 0 }, { name := "STRUCT", type := (.object "com/example/strictwire/strictwire/WireType"), accessFlags := 16409, slot := 7, constantValue := 0 }, { name := "MAP", type := (.object "com/example/strictwire/strictwire/WireType"), accessFlags := 16409, slot := 8, constantValue := 0 }, { name := "SET", type := (.object "com/example/strictwire/strictwire/WireType"), accessFlags := 16409, slot := 9, constantValue := 0 }, { name := "LIST", type := (.object "com/example/strictwire/strictwire/WireType"), accessFlags := 16409, slot := 10, constantValue := 0 }, { name := "BY_CODE", type := (.array (.object "com/example/strictwire/strictwire/WireType")), accessFlags := 26, slot := 11, constantValue := 0 }, { name := "code", type := .byte, accessFlags := 18, slot := 3, constantValue := 0 }, { name := "typeName", type := (.object "java/lang/String"), accessFlags := 18, slot := 4, constantValue := 0 }, { name := "$VALUES", type := (.array (.object "com/example/strictwire/strictwire/WireType")), accessFlags := 4122, slot := 12, constantValue := 0 }]
  methods := #[]
  instanceTypes := #[(.object "java/lang/String"), .int, .int, .byte, (.object "java/lang/String")]
  staticTypes := #[(.object "com/example/strictwire/strictwire/WireType"), (.object "com/example/strictwire/strictwire/WireType"), (.object "com/example/strictwire/strictwire/WireType"), (.object "com/example/strictwire/strictwire/WireType"), (.object "com/example/strictwire/strictwire/WireType"), (.object "com/example/strictwire/strictwire/WireType"), (.object "com/example/strictwire/strictwire/WireType"), (.object "com/example/strictwire/strictwire/WireType"), (.object "com/example/strictwire/strictwire/WireType"), (.object "com/example/strictwire/strictwire/WireType"), (.object "com/example/strictwire/strictwire/WireType"), (.array (.object "com/example/strictwire/strictwire/WireType")), (.array (.object "com/example/strictwire/strictwire/WireType"))]
  resolved := Array.replicate 135 none
  statics := some 1 }

def pool26 : Array CpInfo := pool [(2, .class_ 4), (1, u "java/lang/Object"), (0, u "<init>"), (0, u "()V"), (3, .class_ 11), (0, u "java/util/ImmutableCollections$List12"), (0, .class_ 13), (0, u "java/util/ImmutableCollections$ListN"), (3, u "Z"), (0, .class_ 19), (0, u "java/util/List"), (0, .interfaceMethodref 21 22), (0, .class_ 23), (0, .nameAndType 24 25), (0, u "java/util/Collection"), (0, u "isEmpty"), (0, u "()Z"), (0, .interfaceMethodref 18 27), (0, .nameAndType 28 29), (0, u "of"), (0, u "()Ljava/util/List;"), (0, .interfaceMethodref 21 31), (0, .nameAndType 32 33), (0, u "toArray"), (0, u "()[Ljava/lang/Object;"), (0, .interfaceMethodref 18 35), (0, .nameAndType 28 36), (0, u "([Ljava/lang/Object;)Ljava/util/List;"), (10, .class_ 49), (1, u "java/util/ImmutableCollections"), (0, u "$assertionsDisabled"), (5, u "[Ljava/lang/Object;"), (5, u "EMPTY_LIST"), (0, u "Ljava/util/ImmutableCollections$ListN;"), (8, u "EMPTY_LIST_NULLS"), (22, u "SALT32L"), (0, u "J"), (2, u "REVERSE"), (6, u "archivedObjects"), (2, u "EMPTY"), (0, u "Ljava/lang/Object;"), (0, .class_ 112), (0, u "java/util/ImmutableCollections$SetN"), (5, u "EMPTY_SET"), (0, u "Ljava/util/ImmutableCollections$SetN;"), (0, .class_ 121), (0, u "java/util/ImmutableCollections$MapN"), (3, u "EMPTY_MAP"), (0, u "Ljava/util/ImmutableCollections$MapN;"), (4, u "EXPAND_FACTOR"), (0, u "I"), (9, u "listCopy"), (0, u "(Ljava/util/Collection;)Ljava/util/List;"), (25, .class_ 170), (0, u "java/util/ImmutableCollections$MapN$MapNIterator"), (0, .class_ 172), (0, u "java/util/ImmutableCollections$MapN$1"), (0, .class_ 174), (0, u "java/util/ImmutableCollections$Map1"), (0, .class_ 176), (0, u "java/util/ImmutableCollections$AbstractImmutableMap"), (0, .class_ 178), (0, u "java/util/ImmutableCollections$SetN$SetNIterator"), (0, .class_ 180), (0, u "java/util/ImmutableCollections$Set12"), (0, .class_ 182), (0, u "java/util/ImmutableCollections$Set12$1"), (0, .class_ 184), (0, u "java/util/ImmutableCollections$AbstractImmutableSet"), (0, .class_ 186), (0, u "java/util/ImmutableCollections$SubList"), (0, .class_ 188), (0, u "java/util/ImmutableCollections$ListItr"), (0, .class_ 190), (0, u "java/util/ImmutableCollections$AbstractImmutableList"), (0, .class_ 192), (0, u "java/util/ImmutableCollections$AbstractImmutableCollection"), (0, .class_ 194), (0, u "java/util/ImmutableCollections$Access"), (0, .class_ 196), (0, u "java/util/ImmutableCollections$Access$1")] 16

def k26m0 : Method := { name := "<init>", desc := "()V", sig := { parameters := [], returnType := none }, accessFlags := 2, code := none }
def k26c1 : Code := { maxStack := 1, maxLocals := 2, code := jdk_56_method_3_code, exceptionTable := #[], attributes := #[] }
def k26m1 : Method := { name := "listCopy", desc := "(Ljava/util/Collection;)Ljava/util/List;", sig := { parameters := [(.object "java/util/Collection")], returnType := some (.object "java/util/List") }, accessFlags := 8, code := some k26c1 }
/-- java/util/ImmutableCollections -/
def k26 : Class := { plain "java/util/ImmutableCollections" (some 0) with
  accessFlags := 32
  interfaces := #[]
  cf := some (fileOf pool26 47 #[.nestMembers #[120, 169, 171, 173, 175, 111, 177, 179, 181, 183, 12, 10, 185, 187, 189, 191, 193, 195]] #[{ accessFlags := 2, nameIndex := 5, descriptorIndex := 6, attributes := #[] }, { accessFlags := 8, nameIndex := 142, descriptorIndex := 143, attributes := #[] }] 32 2 #[] #[{ accessFlags := 26, nameIndex := 95, descriptorIndex := 96, attributes := #[] }, { accessFlags := 26, nameIndex := 99, descriptorIndex := 17, attributes := #[] }, { accessFlags := 10, nameIndex := 106, descriptorIndex := 56, attributes := #[] }, { accessFlags := 26, nameIndex := 109, descriptorIndex := 110, attributes := #[] }, { accessFlags := 24, nameIndex := 62, descriptorIndex := 63, attributes := #[] }, { accessFlags := 24, nameIndex := 72, descriptorIndex := 63, attributes := #[] }, { accessFlags := 24, nameIndex := 118, descriptorIndex := 119, attributes := #[] }, { accessFlags := 24, nameIndex := 125, descriptorIndex := 126, attributes := #[] }, { accessFlags := 24, nameIndex := 131, descriptorIndex := 132, attributes := #[] }, { accessFlags := 4120, nameIndex := 50, descriptorIndex := 17, attributes := #[] }])
  fields := #[{ name := "SALT32L", type := .long, accessFlags := 26, slot := 0, constantValue := 0 }, { name := "REVERSE", type := .boolean, accessFlags := 26, slot := 1, constantValue := 0 }, { name := "archivedObjects", type := (.array (.object "java/lang/Object")), accessFlags := 10, slot := 2, constantValue := 0 }, { name := "EMPTY", type := (.object "java/lang/Object"), accessFlags := 26, slot := 3, constantValue := 0 }, { name := "EMPTY_LIST", type := (.object "java/util/ImmutableCollections$ListN"), accessFlags := 24, slot := 4, constantValue := 0 }, { name := "EMPTY_LIST_NULLS", type := (.object "java/util/ImmutableCollections$ListN"), accessFlags := 24, slot := 5, constantValue := 0 }, { name := "EMPTY_SET", type := (.object "java/util/ImmutableCollections$SetN"), accessFlags := 24, slot := 6, constantValue := 0 }, { name := "EMPTY_MAP", type := (.object "java/util/ImmutableCollections$MapN"), accessFlags := 24, slot := 7, constantValue := 0 }, { name := "EXPAND_FACTOR", type := .int, accessFlags := 24, slot := 8, constantValue := 0 }, { name := "$assertionsDisabled", type := .boolean, accessFlags := 4120, slot := 9, constantValue := 0 }]
  methods := #[k26m0, k26m1]
  instanceTypes := #[]
  staticTypes := #[.long, .boolean, (.array (.object "java/lang/Object")), (.object "java/lang/Object"), (.object "java/util/ImmutableCollections$ListN"), (.object "java/util/ImmutableCollections$ListN"), (.object "java/util/ImmutableCollections$SetN"), (.object "java/util/ImmutableCollections$MapN"), .int, .boolean]
  resolved := Array.replicate 213 none
  statics := some 2 }

def pool27 : Array CpInfo := pool [(1, .methodref 2 3), (0, .class_ 4), (0, .nameAndType 5 6), (0, u "java/util/AbstractCollection"), (0, u "<init>"), (0, u "()V"), (1, .class_ 10), (1, u "java/util/ImmutableCollections"), (2, .class_ 14), (0, u "java/util/ImmutableCollections$AbstractImmutableCollection")] 41

def k27c0 : Code := { maxStack := 1, maxLocals := 1, code := jdk_47_method_1_code, exceptionTable := #[], attributes := #[] }
def k27m0 : Method := { name := "<init>", desc := "()V", sig := { parameters := [], returnType := none }, accessFlags := 0, code := some k27c0 }
/-- java/util/ImmutableCollections$AbstractImmutableCollection -/
def k27 : Class := { plain "java/util/ImmutableCollections$AbstractImmutableCollection" (some 15) with
  accessFlags := 1056
  interfaces := #[]
  cf := some (fileOf pool27 13 #[.nestHost 8] #[{ accessFlags := 0, nameIndex := 5, descriptorIndex := 6, attributes := #[] }] 1056 2 #[] #[])
  fields := #[]
  methods := #[k27m0]
  instanceTypes := #[]
  staticTypes := #[]
  resolved := Array.replicate 56 none
  statics := none }

def pool28 : Array CpInfo := pool [(1, .methodref 2 3), (0, .class_ 4), (0, .nameAndType 5 6), (0, u "java/util/ImmutableCollections$AbstractImmutableCollection"), (0, u "<init>"), (0, u "()V"), (1, .class_ 10), (1, u "java/util/ImmutableCollections"), (3, .class_ 16), (1, u "java/util/ImmutableCollections$AbstractImmutableList"), (60, .class_ 78), (0, u "java/util/List"), (45, .class_ 125), (0, u "java/util/RandomAccess")] 70

def k28c0 : Code := { maxStack := 1, maxLocals := 1, code := jdk_46_method_1_code, exceptionTable := #[], attributes := #[] }
def k28m0 : Method := { name := "<init>", desc := "()V", sig := { parameters := [], returnType := none }, accessFlags := 0, code := some k28c0 }
/-- java/util/ImmutableCollections$AbstractImmutableList -/
def k28 : Class := { plain "java/util/ImmutableCollections$AbstractImmutableList" (some 27) with
  accessFlags := 1056
  interfaces := #[17, 19]
  cf := some (fileOf pool28 14 #[.nestHost 8] #[{ accessFlags := 0, nameIndex := 5, descriptorIndex := 6, attributes := #[] }] 1056 2 #[77, 124] #[])
  fields := #[]
  methods := #[k28m0]
  instanceTypes := #[]
  staticTypes := #[]
  resolved := Array.replicate 196 none
  statics := none }

def pool29 : Array CpInfo := pool [(1, .methodref 2 3), (0, .class_ 4), (0, .nameAndType 5 6), (0, u "java/util/ImmutableCollections$AbstractImmutableList"), (0, u "<init>"), (0, u "()V"), (0, .methodref 8 9), (0, .class_ 10), (0, .nameAndType 11 12), (0, u "java/util/Objects"), (0, u "requireNonNull"), (0, u "(Ljava/lang/Object;)Ljava/lang/Object;"), (0, .fieldref 14 15), (0, .class_ 16), (0, .nameAndType 17 18), (0, u "java/util/ImmutableCollections$List12"), (0, u "e0"), (0, u "Ljava/lang/Object;"), (1, .class_ 22), (1, u "java/util/ImmutableCollections"), (1, .fieldref 14 25), (0, .nameAndType 26 18), (0, u "e1"), (43, .class_ 71), (0, u "java/io/Serializable"), (13, u "(Ljava/lang/Object;Ljava/lang/Object;)V")] 39

def k29c0 : Code := { maxStack := 2, maxLocals := 3, code := jdk_44_method_2_code, exceptionTable := #[], attributes := #[] }
def k29m0 : Method := { name := "<init>", desc := "(Ljava/lang/Object;Ljava/lang/Object;)V", sig := { parameters := [(.object "java/lang/Object"), (.object "java/lang/Object")], returnType := none }, accessFlags := 0, code := some k29c0 }
/-- java/util/ImmutableCollections$List12 -/
def k29 : Class := { plain "java/util/ImmutableCollections$List12" (some 28) with
  accessFlags := 48
  interfaces := #[6]
  cf := some (fileOf pool29 14 #[.nestHost 20] #[{ accessFlags := 0, nameIndex := 5, descriptorIndex := 85, attributes := #[] }] 48 2 #[70] #[{ accessFlags := 18, nameIndex := 17, descriptorIndex := 18, attributes := #[] }, { accessFlags := 18, nameIndex := 26, descriptorIndex := 18, attributes := #[] }])
  fields := #[{ name := "e0", type := (.object "java/lang/Object"), accessFlags := 18, slot := 0, constantValue := 0 }, { name := "e1", type := (.object "java/lang/Object"), accessFlags := 18, slot := 1, constantValue := 0 }]
  methods := #[k29m0]
  instanceTypes := #[(.object "java/lang/Object"), (.object "java/lang/Object")]
  staticTypes := #[]
  resolved := Array.replicate 125 none
  statics := none }

def pool30 : Array CpInfo := pool [(2, .class_ 4), (1, u "java/util/ImmutableCollections$AbstractImmutableList"), (3, .class_ 10), (1, u "java/util/ImmutableCollections$ListN"), (0, u "elements"), (0, u "[Ljava/lang/Object;"), (2, u "allowNulls"), (0, u "Z"), (42, .class_ 60), (0, u "java/io/Serializable"), (53, .class_ 115), (0, u "java/util/ImmutableCollections")] 3

/-- java/util/ImmutableCollections$ListN -/
def k30 : Class := { plain "java/util/ImmutableCollections$ListN" (some 28) with
  accessFlags := 48
  interfaces := #[6]
  cf := some (fileOf pool30 8 #[.nestHost 114] #[] 48 2 #[59] #[{ accessFlags := 18, nameIndex := 11, descriptorIndex := 12, attributes := #[] }, { accessFlags := 18, nameIndex := 15, descriptorIndex := 16, attributes := #[] }])
  fields := #[{ name := "elements", type := (.array (.object "java/lang/Object")), accessFlags := 18, slot := 0, constantValue := 0 }, { name := "allowNulls", type := .boolean, accessFlags := 18, slot := 1, constantValue := 0 }]
  methods := #[]
  instanceTypes := #[(.array (.object "java/lang/Object")), .boolean]
  staticTypes := #[]
  resolved := Array.replicate 119 none
  statics := none }

def pool31 : Array CpInfo := pool [(2, .class_ 4), (1, u "java/lang/Object"), (0, u "<init>"), (0, u "()V"), (7, .class_ 16), (1, u "java/util/Arrays"), (57, .class_ 76), (1, u "java/util/Arrays$NaturalOrder"), (9, .methodref 2 87), (0, .nameAndType 88 89), (0, u "getClass"), (0, u "()Ljava/lang/Class;"), (20, .class_ 111), (0, u "[Ljava/lang/Object;"), (1, .class_ 115), (1, u "java/util/Arrays$LegacyMergeSort"), (1, u "Z"), (32, .methodref 151 152), (0, .class_ 153), (0, .nameAndType 154 155), (0, u "java/lang/System"), (0, u "arraycopy"), (0, u "(Ljava/lang/Object;ILjava/lang/Object;II)V"), (144, .methodref 14 301), (0, .nameAndType 302 303), (0, u "copyOf"), (0, u "([Ljava/lang/Object;ILjava/lang/Class;)[Ljava/lang/Object;"), (0, .methodref 305 306), (0, .class_ 307), (0, .nameAndType 308 309), (0, u "java/lang/Math"), (0, u "min"), (0, u "(II)I"), (65, .class_ 376), (0, u "java/util/Arrays$ArrayList"), (68, u "$assertionsDisabled"), (269, u "MIN_ARRAY_SORT_GRAN"), (0, u "I"), (2, u "INSERTIONSORT_THRESHOLD"), (140, u "([Ljava/lang/Object;I)[Ljava/lang/Object;"), (114, .class_ 976), (0, u "java/util/Arrays$ArrayItr")] 52

def k31m0 : Method := { name := "<init>", desc := "()V", sig := { parameters := [], returnType := none }, accessFlags := 2, code := none }
def k31c1 : Code := { maxStack := 3, maxLocals := 2, code := jdk_65_method_119_code, exceptionTable := #[], attributes := #[] }
def k31m1 : Method := { name := "copyOf", desc := "([Ljava/lang/Object;I)[Ljava/lang/Object;", sig := { parameters := [(.array (.object "java/lang/Object")), .int], returnType := some (.array (.object "java/lang/Object")) }, accessFlags := 9, code := some k31c1 }
def k31c2 : Code := { maxStack := 6, maxLocals := 4, code := jdk_65_method_120_code, exceptionTable := #[], attributes := #[] }
def k31m2 : Method := { name := "copyOf", desc := "([Ljava/lang/Object;ILjava/lang/Class;)[Ljava/lang/Object;", sig := { parameters := [(.array (.object "java/lang/Object")), .int, (.object "java/lang/Class")], returnType := some (.array (.object "java/lang/Object")) }, accessFlags := 9, code := some k31c2 }
/-- java/util/Arrays -/
def k31 : Class := { plain "java/util/Arrays" (some 0) with
  accessFlags := 49
  interfaces := #[]
  cf := some (fileOf pool31 14 #[.nestMembers #[975, 375, 113, 74]] #[{ accessFlags := 2, nameIndex := 5, descriptorIndex := 6, attributes := #[] }, { accessFlags := 9, nameIndex := 302, descriptorIndex := 860, attributes := #[] }, { accessFlags := 9, nameIndex := 302, descriptorIndex := 303, attributes := #[] }] 49 2 #[] #[{ accessFlags := 26, nameIndex := 715, descriptorIndex := 716, attributes := #[] }, { accessFlags := 26, nameIndex := 719, descriptorIndex := 716, attributes := #[] }, { accessFlags := 4120, nameIndex := 445, descriptorIndex := 117, attributes := #[] }])
  fields := #[{ name := "MIN_ARRAY_SORT_GRAN", type := .int, accessFlags := 26, slot := 0, constantValue := 0 }, { name := "INSERTIONSORT_THRESHOLD", type := .int, accessFlags := 26, slot := 1, constantValue := 0 }, { name := "$assertionsDisabled", type := .boolean, accessFlags := 4120, slot := 2, constantValue := 0 }]
  methods := #[k31m0, k31m1, k31m2]
  instanceTypes := #[]
  staticTypes := #[.int, .int, .boolean]
  resolved := Array.replicate 1029 none
  statics := none }

def pool32 : Array CpInfo := pool [(2, .class_ 4), (1, u "java/lang/Object"), (0, u "<init>"), (0, u "()V"), (1, .class_ 10), (1, u "java/lang/System"), (0, u "allowSecurityManager"), (0, u "I"), (16, u "cons"), (0, u "Ljava/io/Console;"), (77, .class_ 110), (1, u "java/lang/System$CallersHolder"), (43, u "initialErrStream"), (0, u "Ljava/io/PrintStream;"), (19, u "security"), (0, u "Ljava/lang/SecurityManager;"), (31, .class_ 209), (0, u "java/lang/System$1"), (7, u "props"), (0, u "Ljava/util/Properties;"), (2, u "lineSeparator"), (0, u "Ljava/lang/String;"), (96, .class_ 321), (1, u "java/lang/System$LoggerFinder"), (5, .class_ 328), (0, u "java/lang/System$Logger"), (67, u "err"), (2, u "out"), (91, u "notSupportedJnuEncoding"), (15, u "in"), (17, u "initialIn"), (0, u "Ljava/io/InputStream;"), (35, u "bootLayer"), (0, u "Ljava/lang/ModuleLayer;"), (99, .class_ 664), (0, u "java/lang/System$2"), (9, u "NEVER"), (2, u "MAYBE"), (49, u "arraycopy"), (0, u "(Ljava/lang/Object;ILjava/lang/Object;II)V"), (72, .class_ 802), (0, u "java/lang/System$Logger$Level")] 31

def k32m0 : Method := { name := "<init>", desc := "()V", sig := { parameters := [], returnType := none }, accessFlags := 2, code := none }
def k32m1 : Method := { name := "arraycopy", desc := "(Ljava/lang/Object;ILjava/lang/Object;II)V", sig := { parameters := [(.object "java/lang/Object"), .int, (.object "java/lang/Object"), .int, .int], returnType := none }, accessFlags := 265, code := none }
/-- java/lang/System -/
def k32 : Class := { plain "java/lang/System" (some 0) with
  accessFlags := 49
  interfaces := #[]
  cf := some (fileOf pool32 8 #[.nestMembers #[319, 327, 801, 108, 663, 208]] #[{ accessFlags := 2, nameIndex := 5, descriptorIndex := 6, attributes := #[] }, { accessFlags := 265, nameIndex := 727, descriptorIndex := 728, attributes := #[] }] 49 2 #[] #[{ accessFlags := 25, nameIndex := 507, descriptorIndex := 526, attributes := #[] }, { accessFlags := 25, nameIndex := 399, descriptorIndex := 155, attributes := #[] }, { accessFlags := 25, nameIndex := 396, descriptorIndex := 155, attributes := #[] }, { accessFlags := 10, nameIndex := 525, descriptorIndex := 526, attributes := #[] }, { accessFlags := 26, nameIndex := 674, descriptorIndex := 12, attributes := #[] }, { accessFlags := 26, nameIndex := 677, descriptorIndex := 12, attributes := #[] }, { accessFlags := 10, nameIndex := 11, descriptorIndex := 12, attributes := #[] }, { accessFlags := 74, nameIndex := 175, descriptorIndex := 176, attributes := #[] }, { accessFlags := 10, nameIndex := 491, descriptorIndex := 222, attributes := #[] }, { accessFlags := 74, nameIndex := 29, descriptorIndex := 30, attributes := #[] }, { accessFlags := 74, nameIndex := 154, descriptorIndex := 155, attributes := #[] }, { accessFlags := 10, nameIndex := 217, descriptorIndex := 218, attributes := #[] }, { accessFlags := 10, nameIndex := 221, descriptorIndex := 222, attributes := #[] }, { accessFlags := 8, nameIndex := 562, descriptorIndex := 563, attributes := #[] }])
  fields := #[{ name := "in", type := (.object "java/io/InputStream"), accessFlags := 25, slot := 0, constantValue := 0 }, { name := "out", type := (.object "java/io/PrintStream"), accessFlags := 25, slot := 1, constantValue := 0 }, { name := "err", type := (.object "java/io/PrintStream"), accessFlags := 25, slot := 2, constantValue := 0 }, { name := "initialIn", type := (.object "java/io/InputStream"), accessFlags := 10, slot := 3, constantValue := 0 }, { name := "NEVER", type := .int, accessFlags := 26, slot := 4, constantValue := 0 }, { name := "MAYBE", type := .int, accessFlags := 26, slot := 5, constantValue := 0 }, { name := "allowSecurityManager", type := .int, accessFlags := 10, slot := 6, constantValue := 0 }, { name := "security", type := (.object "java/lang/SecurityManager"), accessFlags := 74, slot := 7, constantValue := 0 }, { name := "notSupportedJnuEncoding", type := (.object "java/lang/String"), accessFlags := 10, slot := 8, constantValue := 0 }, { name := "cons", type := (.object "java/io/Console"), accessFlags := 74, slot := 9, constantValue := 0 }, { name := "initialErrStream", type := (.object "java/io/PrintStream"), accessFlags := 74, slot := 10, constantValue := 0 }, { name := "props", type := (.object "java/util/Properties"), accessFlags := 10, slot := 11, constantValue := 0 }, { name := "lineSeparator", type := (.object "java/lang/String"), accessFlags := 10, slot := 12, constantValue := 0 }, { name := "bootLayer", type := (.object "java/lang/ModuleLayer"), accessFlags := 8, slot := 13, constantValue := 0 }]
  methods := #[k32m0, k32m1]
  instanceTypes := #[]
  staticTypes := #[(.object "java/io/InputStream"), (.object "java/io/PrintStream"), (.object "java/io/PrintStream"), (.object "java/io/InputStream"), .int, .int, .int, (.object "java/lang/SecurityManager"), (.object "java/lang/String"), (.object "java/io/Console"), (.object "java/io/PrintStream"), (.object "java/util/Properties"), (.object "java/lang/String"), (.object "java/lang/ModuleLayer")]
  resolved := Array.replicate 834 none
  statics := none }

/-- the primitive byte -/
def k33 : Class := { plain "byte" none with kind := .primitive 'B', accessFlags := 0x411 }
/-- [B -/
def k34 : Class := { plain "[B" (some 0) with kind := .array 33 .byte, interfaces := #[20, 6], accessFlags := 1041 }

/-- the primitive int -/
def k35 : Class := { plain "int" none with kind := .primitive 'I', accessFlags := 0x411 }
/-- [I -/
def k36 : Class := { plain "[I" (some 0) with kind := .array 35 .int, interfaces := #[20, 6], accessFlags := 1041 }

/-- [Lcom/example/strictwire/strictwire/Field; -/
def k37 : Class := { plain "[Lcom/example/strictwire/strictwire/Field;" (some 0) with kind := .array 5 (.object "com/example/strictwire/strictwire/Field"), interfaces := #[20, 6], accessFlags := 1041 }

/-- [Lcom/example/strictwire/strictwire/I32Value; -/
def k38 : Class := { plain "[Lcom/example/strictwire/strictwire/I32Value;" (some 0) with kind := .array 4 (.object "com/example/strictwire/strictwire/I32Value"), interfaces := #[20, 6], accessFlags := 1041 }

/-- [Ljava/lang/Object; -/
def k39 : Class := { plain "[Ljava/lang/Object;" (some 0) with kind := .array 0 (.object "java/lang/Object"), interfaces := #[20, 6], accessFlags := 1041, mirror := some 8 }

def heap : Heap := #[{ cls := 21, slots := #[.long 0, .int 0, .ref 6, .ref 7], vm := .statics 21 },
  { cls := 25, slots := #[.null, .null, .null, .null, .ref 4, .null, .null, .null, .null, .null, .null, .null, .null], vm := .statics 25 },
  { cls := 26, slots := #[.long 0, .int 0, .null, .null, .ref 5, .null, .null, .null, .int 0, .int 0], vm := .statics 26 },
  { cls := 39, slots := #[], vm := .none },
  { cls := 25, slots := #[.null, .int 4, .int 0, .int 0, .null], vm := .none },
  { cls := 30, slots := #[.ref 3, .int 0], vm := .none },
  { cls := 39, slots := #[], vm := .none },
  { cls := 39, slots := #[], vm := .none },
  { cls := 0, slots := #[], vm := .mirror 39 }]
def classes : Array Class := #[k0, k1, k2, k3, k4, k5, k6, k7, k8, k9, k10, k11, k12, k13, k14, k15, k16, k17, k18, k19, k20, k21, k22, k23, k24, k25, k26, k27, k28, k29, k30, k31, k32, k33, k34, k35, k36, k37, k38, k39]
def interned : List (Array UInt16 × Addr) := []
def slotsUsed : Nat := 34
def theMethod : MethodId := ⟨1, 1⟩
def args0 : Array Value := #[.int 2, .int 5, .int 1, .int 7, .int 1]
def aboutOver (below : List Frame) : State where
  vm := { classes := classes, interned := interned.toArray }
  heap := heap
  slotsUsed := slotsUsed
  threads := #[{ frames := .invoking theMethod args0 :: below }]
def below0 : List Frame := [.native { method := ⟨0, 0⟩, args := #[] }]
def about1 : State := aboutOver below0
def p0 : Program := .bare "" "" ""
def e0 : Env := launch0.env 0 0 0
theorem w_frames : about1.frames = Frame.invoking theMethod args0 :: below0 := rfl
set_option maxRecDepth 65536 in
theorem w_args : argsFit about1.vm theMethod args0 = true := by decide +kernel
set_option maxRecDepth 65536 in
theorem w_heap : heapFits about1 = true := by decide +kernel
set_option maxRecDepth 65536 in
theorem w_runnable : about1.curStatus? = some .runnable := by decide +kernel
set_option maxRecDepth 65536 in
theorem w_alone : about1.alone = true := by decide +kernel
set_option maxRecDepth 65536 in
theorem w_named : about1.methodNamed? x = some theMethod := by decide +kernel
set_option maxRecDepth 65536 in
theorem w_hears : about1.hears theMethod below0 = true := by decide +kernel
set_option maxRecDepth 65536 in
theorem w_ripe : about1.ripe theMethod args0 below0 = true := by decide +kernel
theorem w_running : about1.status = .running := rfl
set_option maxRecDepth 65536 in
theorem w_room : about1.hasRoom e0.platform room_1 = true :=
  launch0.hasRoom_least _ room_1 (by decide +kernel) (by decide +kernel) (by decide +kernel) (by decide +kernel) (by decide +kernel) (by decide +kernel)
theorem allAtoms_all (ts : List Jvm.Cond) (a : Array Jvm.Value) (st : Jvm.State) : (allAtoms ts).before a st = ts.all (fun c => c.before a st) := by
  induction ts with
  | nil => rfl
  | cons c t ih =>
    show (Jvm.Cond.and c (allAtoms t)).before a st = _
    rw [Jvm.Cond.before_and, ih, List.all_cons]
def words1 : List Jvm.Cond := Jvm.Cond.code x code maxLocals ret :: tables_1
/-- a 'code' word, met by the world's own term for the bytes: nothing is compared byte by byte -/
theorem code_word {y : MethodName} {bytes : ByteArray} {mx : Nat} {rt : Option FieldType} {a : Array Value} {s : State} {m : MethodId} {meth : Method} {c : Code} (h1 : s.methodNamed? y = some m) (h2 : s.vm.method? m = some meth) (h3 : meth.code = some c) (h4 : c.code = bytes)
    (h5 : (c.maxLocals == mx && c.exceptionTable.isEmpty && decide (c.maxStack ≤ mostOperands) && decide (meth.sig.returnType = rt) && !meth.locks && decide (parseMethodDescriptor y.desc = some meth.sig)) = true) : (Jvm.Cond.code y bytes mx rt).before a s = true := by
  simp only [Bool.and_eq_true, beq_iff_eq, Bool.not_eq_true', decide_eq_true_eq] at h5
  obtain ⟨⟨⟨⟨⟨g1, g2⟩, g3⟩, g4⟩, g5⟩, g6⟩ := h5
  simp [Cond.before, Cond.holds, Cond.value, h1, h2, h3, h4, g1, g2, g3, g4, g5, g6]
def isCode : Jvm.Cond → Bool
  | .code _ _ _ _ => true
  | _ => false
theorem all_split {L : List Jvm.Cond} {P : Jvm.Cond → Bool} (h1 : L.all (fun c => isCode c || P c) = true) (h2 : ∀ c ∈ L.filter isCode, P c = true) : L.all P = true := by
  refine List.all_eq_true.mpr fun c hc => ?_
  have h := List.all_eq_true.mp h1 c hc
  rcases Bool.eq_false_or_eq_true (isCode c) with hi | hi
  · exact h2 c (List.mem_filter.mpr ⟨hc, hi⟩)
  · simpa [hi] using h
set_option maxRecDepth 65536 in
theorem w_c0 : (Jvm.Cond.code x code maxLocals ret).before args0 about1 = true := code_word (m := ⟨1, 1⟩) (meth := k1m1) (c := k1c1) (by decide +kernel) rfl rfl rfl (by decide +kernel)
set_option maxRecDepth 65536 in
theorem w_c1 : (Jvm.Cond.code ({ cls := "com/example/strictwire/strictwire/I32Value", name := "<init>", desc := "(I)V" } : Jvm.MethodName) prog_15_method_1_code (2 : Nat) (Option.none : Option Jvm.ClassFile.FieldType)).before args0 about1 = true := code_word (m := ⟨4, 0⟩) (meth := k4m0) (c := k4c0) (by decide +kernel) rfl rfl rfl (by decide +kernel)
set_option maxRecDepth 65536 in
theorem w_c2 : (Jvm.Cond.code ({ cls := "java/lang/Record", name := "<init>", desc := "()V" } : Jvm.MethodName) jdk_30_method_1_code (1 : Nat) (Option.none : Option Jvm.ClassFile.FieldType)).before args0 about1 = true := code_word (m := ⟨2, 0⟩) (meth := k2m0) (c := k2c0) (by decide +kernel) rfl rfl rfl (by decide +kernel)
set_option maxRecDepth 65536 in
theorem w_c3 : (Jvm.Cond.code ({ cls := "java/lang/Object", name := "<init>", desc := "()V" } : Jvm.MethodName) object_method_1_code (1 : Nat) (Option.none : Option Jvm.ClassFile.FieldType)).before args0 about1 = true := code_word (m := ⟨0, 0⟩) (meth := k0m0) (c := k0c0) (by decide +kernel) rfl rfl rfl (by decide +kernel)
set_option maxRecDepth 65536 in
theorem w_c4 : (Jvm.Cond.code ({ cls := "com/example/strictwire/strictwire/Field", name := "<init>", desc := "(SLcom/example/strictwire/strictwire/Value;)V" } : Jvm.MethodName) prog_11_method_1_code (3 : Nat) (Option.none : Option Jvm.ClassFile.FieldType)).before args0 about1 = true := code_word (m := ⟨5, 0⟩) (meth := k5m0) (c := k5c0) (by decide +kernel) rfl rfl rfl (by decide +kernel)
set_option maxRecDepth 65536 in
theorem w_c5 : (Jvm.Cond.code ({ cls := "java/util/Objects", name := "requireNonNull", desc := "(Ljava/lang/Object;Ljava/lang/String;)Ljava/lang/Object;" } : Jvm.MethodName) jdk_31_method_11_code (2 : Nat) (Option.some (Jvm.ClassFile.FieldType.object "java/lang/Object"))).before args0 about1 = true := code_word (m := ⟨12, 2⟩) (meth := k12m2) (c := k12c2) (by decide +kernel) rfl rfl rfl (by decide +kernel)
set_option maxRecDepth 65536 in
theorem w_c6 : (Jvm.Cond.code ({ cls := "java/util/ArrayList", name := "<init>", desc := "()V" } : Jvm.MethodName) jdk_38_method_2_code (1 : Nat) (Option.none : Option Jvm.ClassFile.FieldType)).before args0 about1 = true := code_word (m := ⟨21, 0⟩) (meth := k21m0) (c := k21c0) (by decide +kernel) rfl rfl rfl (by decide +kernel)
set_option maxRecDepth 65536 in
theorem w_c7 : (Jvm.Cond.code ({ cls := "java/util/AbstractList", name := "<init>", desc := "()V" } : Jvm.MethodName) jdk_39_method_1_code (1 : Nat) (Option.none : Option Jvm.ClassFile.FieldType)).before args0 about1 = true := code_word (m := ⟨18, 0⟩) (meth := k18m0) (c := k18c0) (by decide +kernel) rfl rfl rfl (by decide +kernel)
set_option maxRecDepth 65536 in
theorem w_c8 : (Jvm.Cond.code ({ cls := "java/util/AbstractCollection", name := "<init>", desc := "()V" } : Jvm.MethodName) jdk_22_method_1_code (1 : Nat) (Option.none : Option Jvm.ClassFile.FieldType)).before args0 about1 = true := code_word (m := ⟨15, 0⟩) (meth := k15m0) (c := k15c0) (by decide +kernel) rfl rfl rfl (by decide +kernel)
set_option maxRecDepth 65536 in
theorem w_c9 : (Jvm.Cond.code ({ cls := "com/example/strictwire/strictwire/ValueList", name := "ofFields", desc := "([Lcom/example/strictwire/strictwire/Field;)Lcom/example/strictwire/strictwire/ValueList;" } : Jvm.MethodName) prog_38_method_2_code (1 : Nat) (Option.some (Jvm.ClassFile.FieldType.object "com/example/strictwire/strictwire/ValueList"))).before args0 about1 = true := code_word (m := ⟨22, 1⟩) (meth := k22m1) (c := k22c1) (by decide +kernel) rfl rfl rfl (by decide +kernel)
set_option maxRecDepth 65536 in
theorem w_c10 : (Jvm.Cond.code ({ cls := "com/example/strictwire/strictwire/ValueList", name := "<init>", desc := "([Ljava/lang/Object;ZLcom/example/strictwire/strictwire/WireType;)V" } : Jvm.MethodName) prog_38_method_1_code (4 : Nat) (Option.none : Option Jvm.ClassFile.FieldType)).before args0 about1 = true := code_word (m := ⟨22, 0⟩) (meth := k22m0) (c := k22c0) (by decide +kernel) rfl rfl rfl (by decide +kernel)
set_option maxRecDepth 65536 in
theorem w_c11 : (Jvm.Cond.code ({ cls := "com/example/strictwire/strictwire/ValueList", name := "hasDistinctIds", desc := "(Ljava/util/List;)Z" } : Jvm.MethodName) prog_38_method_6_code (2 : Nat) (Option.some Jvm.ClassFile.FieldType.boolean)).before args0 about1 = true := code_word (m := ⟨22, 4⟩) (meth := k22m4) (c := k22c4) (by decide +kernel) rfl rfl rfl (by decide +kernel)
set_option maxRecDepth 65536 in
theorem w_c12 : (Jvm.Cond.code ({ cls := "java/util/ArrayList", name := "add", desc := "(Ljava/lang/Object;)Z" } : Jvm.MethodName) jdk_38_method_25_code (2 : Nat) (Option.some Jvm.ClassFile.FieldType.boolean)).before args0 about1 = true := code_word (m := ⟨21, 6⟩) (meth := k21m6) (c := k21c6) (by decide +kernel) rfl rfl rfl (by decide +kernel)
set_option maxRecDepth 65536 in
theorem w_c13 : (Jvm.Cond.code ({ cls := "java/util/ArrayList", name := "add", desc := "(Ljava/lang/Object;[Ljava/lang/Object;I)V" } : Jvm.MethodName) jdk_38_method_24_code (4 : Nat) (Option.none : Option Jvm.ClassFile.FieldType)).before args0 about1 = true := code_word (m := ⟨21, 5⟩) (meth := k21m5) (c := k21c5) (by decide +kernel) rfl rfl rfl (by decide +kernel)
set_option maxRecDepth 65536 in
theorem w_c14 : (Jvm.Cond.code ({ cls := "java/util/ArrayList", name := "grow", desc := "()[Ljava/lang/Object;" } : Jvm.MethodName) jdk_38_method_7_code (1 : Nat) (Option.some (Jvm.ClassFile.FieldType.array (Jvm.ClassFile.FieldType.object "java/lang/Object")))).before args0 about1 = true := code_word (m := ⟨21, 2⟩) (meth := k21m2) (c := k21c2) (by decide +kernel) rfl rfl rfl (by decide +kernel)
set_option maxRecDepth 65536 in
theorem w_c15 : (Jvm.Cond.code ({ cls := "java/util/ArrayList", name := "grow", desc := "(I)[Ljava/lang/Object;" } : Jvm.MethodName) jdk_38_method_6_code (4 : Nat) (Option.some (Jvm.ClassFile.FieldType.array (Jvm.ClassFile.FieldType.object "java/lang/Object")))).before args0 about1 = true := code_word (m := ⟨21, 1⟩) (meth := k21m1) (c := k21c1) (by decide +kernel) rfl rfl rfl (by decide +kernel)
set_option maxRecDepth 65536 in
theorem w_c16 : (Jvm.Cond.code ({ cls := "java/lang/Math", name := "max", desc := "(II)I" } : Jvm.MethodName) jdk_29_method_65_code (2 : Nat) (Option.some Jvm.ClassFile.FieldType.int)).before args0 about1 = true := code_word (m := ⟨23, 1⟩) (meth := k23m1) (c := k23c1) (by decide +kernel) rfl rfl rfl (by decide +kernel)
set_option maxRecDepth 65536 in
theorem w_c17 : (Jvm.Cond.code ({ cls := "com/example/strictwire/strictwire/ValueList", name := "copyOf", desc := "(Ljava/util/List;)Ljava/util/List;" } : Jvm.MethodName) prog_38_method_5_code (2 : Nat) (Option.some (Jvm.ClassFile.FieldType.object "java/util/List"))).before args0 about1 = true := code_word (m := ⟨22, 3⟩) (meth := k22m3) (c := k22c3) (by decide +kernel) rfl rfl rfl (by decide +kernel)
set_option maxRecDepth 65536 in
theorem w_c18 : (Jvm.Cond.code ({ cls := "com/example/strictwire/strictwire/I32Value", name := "type", desc := "()Lcom/example/strictwire/strictwire/WireType;" } : Jvm.MethodName) prog_15_method_2_code (1 : Nat) (Option.some (Jvm.ClassFile.FieldType.object "com/example/strictwire/strictwire/WireType"))).before args0 about1 = true := code_word (m := ⟨4, 1⟩) (meth := k4m1) (c := k4c1) (by decide +kernel) rfl rfl rfl (by decide +kernel)
set_option maxRecDepth 65536 in
theorem w_c19 : (Jvm.Cond.code ({ cls := "com/example/strictwire/strictwire/ValueList", name := "ofElements", desc := "([Lcom/example/strictwire/strictwire/Value;Lcom/example/strictwire/strictwire/WireType;)Lcom/example/strictwire/strictwire/ValueList;" } : Jvm.MethodName) prog_38_method_3_code (2 : Nat) (Option.some (Jvm.ClassFile.FieldType.object "com/example/strictwire/strictwire/ValueList"))).before args0 about1 = true := code_word (m := ⟨22, 2⟩) (meth := k22m2) (c := k22c2) (by decide +kernel) rfl rfl rfl (by decide +kernel)
set_option maxRecDepth 65536 in
theorem w_c20 : (Jvm.Cond.code ({ cls := "java/util/List", name := "copyOf", desc := "(Ljava/util/Collection;)Ljava/util/List;" } : Jvm.MethodName) jdk_40_method_48_code (1 : Nat) (Option.some (Jvm.ClassFile.FieldType.object "java/util/List"))).before args0 about1 = true := code_word (m := ⟨17, 3⟩) (meth := k17m3) (c := k17c3) (by decide +kernel) rfl rfl rfl (by decide +kernel)
set_option maxRecDepth 65536 in
theorem w_c21 : (Jvm.Cond.code ({ cls := "java/util/ImmutableCollections", name := "listCopy", desc := "(Ljava/util/Collection;)Ljava/util/List;" } : Jvm.MethodName) jdk_56_method_3_code (2 : Nat) (Option.some (Jvm.ClassFile.FieldType.object "java/util/List"))).before args0 about1 = true := code_word (m := ⟨26, 1⟩) (meth := k26m1) (c := k26c1) (by decide +kernel) rfl rfl rfl (by decide +kernel)
set_option maxRecDepth 65536 in
theorem w_c22 : (Jvm.Cond.code ({ cls := "java/util/ArrayList", name := "isEmpty", desc := "()Z" } : Jvm.MethodName) jdk_38_method_9_code (1 : Nat) (Option.some Jvm.ClassFile.FieldType.boolean)).before args0 about1 = true := code_word (m := ⟨21, 3⟩) (meth := k21m3) (c := k21c3) (by decide +kernel) rfl rfl rfl (by decide +kernel)
set_option maxRecDepth 65536 in
theorem w_c23 : (Jvm.Cond.code ({ cls := "java/util/ArrayList", name := "toArray", desc := "()[Ljava/lang/Object;" } : Jvm.MethodName) jdk_38_method_16_code (1 : Nat) (Option.some (Jvm.ClassFile.FieldType.array (Jvm.ClassFile.FieldType.object "java/lang/Object")))).before args0 about1 = true := code_word (m := ⟨21, 4⟩) (meth := k21m4) (c := k21c4) (by decide +kernel) rfl rfl rfl (by decide +kernel)
set_option maxRecDepth 65536 in
theorem w_c24 : (Jvm.Cond.code ({ cls := "java/util/Arrays", name := "copyOf", desc := "([Ljava/lang/Object;I)[Ljava/lang/Object;" } : Jvm.MethodName) jdk_65_method_119_code (2 : Nat) (Option.some (Jvm.ClassFile.FieldType.array (Jvm.ClassFile.FieldType.object "java/lang/Object")))).before args0 about1 = true := code_word (m := ⟨31, 1⟩) (meth := k31m1) (c := k31c1) (by decide +kernel) rfl rfl rfl (by decide +kernel)
set_option maxRecDepth 65536 in
theorem w_c25 : (Jvm.Cond.code ({ cls := "java/util/Arrays", name := "copyOf", desc := "([Ljava/lang/Object;ILjava/lang/Class;)[Ljava/lang/Object;" } : Jvm.MethodName) jdk_65_method_120_code (4 : Nat) (Option.some (Jvm.ClassFile.FieldType.array (Jvm.ClassFile.FieldType.object "java/lang/Object")))).before args0 about1 = true := code_word (m := ⟨31, 2⟩) (meth := k31m2) (c := k31c2) (by decide +kernel) rfl rfl rfl (by decide +kernel)
set_option maxRecDepth 65536 in
theorem w_c26 : (Jvm.Cond.code ({ cls := "java/lang/Math", name := "min", desc := "(II)I" } : Jvm.MethodName) jdk_29_method_69_code (2 : Nat) (Option.some Jvm.ClassFile.FieldType.int)).before args0 about1 = true := code_word (m := ⟨23, 2⟩) (meth := k23m2) (c := k23c2) (by decide +kernel) rfl rfl rfl (by decide +kernel)
set_option maxRecDepth 65536 in
theorem w_c27 : (Jvm.Cond.code ({ cls := "java/util/List", name := "of", desc := "([Ljava/lang/Object;)Ljava/util/List;" } : Jvm.MethodName) jdk_40_method_47_code (2 : Nat) (Option.some (Jvm.ClassFile.FieldType.object "java/util/List"))).before args0 about1 = true := code_word (m := ⟨17, 2⟩) (meth := k17m2) (c := k17c2) (by decide +kernel) rfl rfl rfl (by decide +kernel)
set_option maxRecDepth 65536 in
theorem w_c28 : (Jvm.Cond.code ({ cls := "java/util/ImmutableCollections$List12", name := "<init>", desc := "(Ljava/lang/Object;Ljava/lang/Object;)V" } : Jvm.MethodName) jdk_44_method_2_code (3 : Nat) (Option.none : Option Jvm.ClassFile.FieldType)).before args0 about1 = true := code_word (m := ⟨29, 0⟩) (meth := k29m0) (c := k29c0) (by decide +kernel) rfl rfl rfl (by decide +kernel)
set_option maxRecDepth 65536 in
theorem w_c29 : (Jvm.Cond.code ({ cls := "java/util/ImmutableCollections$AbstractImmutableList", name := "<init>", desc := "()V" } : Jvm.MethodName) jdk_46_method_1_code (1 : Nat) (Option.none : Option Jvm.ClassFile.FieldType)).before args0 about1 = true := code_word (m := ⟨28, 0⟩) (meth := k28m0) (c := k28c0) (by decide +kernel) rfl rfl rfl (by decide +kernel)
set_option maxRecDepth 65536 in
theorem w_c30 : (Jvm.Cond.code ({ cls := "java/util/ImmutableCollections$AbstractImmutableCollection", name := "<init>", desc := "()V" } : Jvm.MethodName) jdk_47_method_1_code (1 : Nat) (Option.none : Option Jvm.ClassFile.FieldType)).before args0 about1 = true := code_word (m := ⟨27, 0⟩) (meth := k27m0) (c := k27c0) (by decide +kernel) rfl rfl rfl (by decide +kernel)
set_option maxRecDepth 65536 in
theorem w_c31 : (Jvm.Cond.code ({ cls := "java/util/Objects", name := "requireNonNull", desc := "(Ljava/lang/Object;)Ljava/lang/Object;" } : Jvm.MethodName) jdk_31_method_10_code (1 : Nat) (Option.some (Jvm.ClassFile.FieldType.object "java/lang/Object"))).before args0 about1 = true := code_word (m := ⟨12, 1⟩) (meth := k12m1) (c := k12c1) (by decide +kernel) rfl rfl rfl (by decide +kernel)
set_option maxRecDepth 65536 in
theorem w_c32 : (Jvm.Cond.code ({ cls := "java/util/List", name := "of", desc := "()Ljava/util/List;" } : Jvm.MethodName) jdk_40_method_36_code (0 : Nat) (Option.some (Jvm.ClassFile.FieldType.object "java/util/List"))).before args0 about1 = true := code_word (m := ⟨17, 1⟩) (meth := k17m1) (c := k17c1) (by decide +kernel) rfl rfl rfl (by decide +kernel)
def codes1 : List Jvm.Cond := [Jvm.Cond.code x code maxLocals ret, Jvm.Cond.code ({ cls := "com/example/strictwire/strictwire/I32Value", name := "<init>", desc := "(I)V" } : Jvm.MethodName) prog_15_method_1_code (2 : Nat) (Option.none : Option Jvm.ClassFile.FieldType), Jvm.Cond.code ({ cls := "java/lang/Record", name := "<init>", desc := "()V" } : Jvm.MethodName) jdk_30_method_1_code (1 : Nat) (Option.none : Option Jvm.ClassFile.FieldType), Jvm.Cond.code ({ cls := "java/lang/Object", name := "<init>", desc := "()V" } : Jvm.MethodName) object_method_1_code (1 : Nat) (Option.none : Option Jvm.ClassFile.FieldType), Jvm.Cond.code ({ cls := "com/example/strictwire/strictwire/Field", name := "<init>", desc := "(SLcom/example/strictwire/strictwire/Value;)V" } : Jvm.MethodName) prog_11_method_1_code (3 : Nat) (Option.none : Option Jvm.ClassFile.FieldType), Jvm.Cond.code ({ cls := "java/util/Objects", name := "requireNonNull", desc := "(Ljava/lang/Object;Ljava/lang/String;)Ljava/lang/Object;" } : Jvm.MethodName) jdk_31_method_11_code (2 : Nat) (Option.some (Jvm.ClassFile.FieldType.object "java/lang/Object")), Jvm.Cond.code ({ cls := "java/util/ArrayList", name := "<init>", desc := "()V" } : Jvm.MethodName) jdk_38_method_2_code (1 : Nat) (Option.none : Option Jvm.ClassFile.FieldType), Jvm.Cond.code ({ cls := "java/util/AbstractList", name := "<init>", desc := "()V" } : Jvm.MethodName) jdk_39_method_1_code (1 : Nat) (Option.none : Option Jvm.ClassFile.FieldType), Jvm.Cond.code ({ cls := "java/util/AbstractCollection", name := "<init>", desc := "()V" } : Jvm.MethodName) jdk_22_method_1_code (1 : Nat) (Option.none : Option Jvm.ClassFile.FieldType), Jvm.Cond.code ({ cls := "com/example/strictwire/strictwire/ValueList", name := "ofFields", desc := "([Lcom/example/strictwire/strictwire/Field;)Lcom/example/strictwire/strictwire/ValueList;" } : Jvm.MethodName) prog_38_method_2_code (1 : Nat) (Option.some (Jvm.ClassFile.FieldType.object "com/example/strictwire/strictwire/ValueList")), Jvm.Cond.code ({ cls := "com/example/strictwire/strictwire/ValueList", name := "<init>", desc := "([Ljava/lang/Object;ZLcom/example/strictwire/strictwire/WireType;)V" } : Jvm.MethodName) prog_38_method_1_code (4 : Nat) (Option.none : Option Jvm.ClassFile.FieldType), Jvm.Cond.code ({ cls := "com/example/strictwire/strictwire/ValueList", name := "hasDistinctIds", desc := "(Ljava/util/List;)Z" } : Jvm.MethodName) prog_38_method_6_code (2 : Nat) (Option.some Jvm.ClassFile.FieldType.boolean), Jvm.Cond.code ({ cls := "java/util/ArrayList", name := "add", desc := "(Ljava/lang/Object;)Z" } : Jvm.MethodName) jdk_38_method_25_code (2 : Nat) (Option.some Jvm.ClassFile.FieldType.boolean), Jvm.Cond.code ({ cls := "java/util/ArrayList", name := "add", desc := "(Ljava/lang/Object;[Ljava/lang/Object;I)V" } : Jvm.MethodName) jdk_38_method_24_code (4 : Nat) (Option.none : Option Jvm.ClassFile.FieldType), Jvm.Cond.code ({ cls := "java/util/ArrayList", name := "grow", desc := "()[Ljava/lang/Object;" } : Jvm.MethodName) jdk_38_method_7_code (1 : Nat) (Option.some (Jvm.ClassFile.FieldType.array (Jvm.ClassFile.FieldType.object "java/lang/Object"))), Jvm.Cond.code ({ cls := "java/util/ArrayList", name := "grow", desc := "(I)[Ljava/lang/Object;" } : Jvm.MethodName) jdk_38_method_6_code (4 : Nat) (Option.some (Jvm.ClassFile.FieldType.array (Jvm.ClassFile.FieldType.object "java/lang/Object"))), Jvm.Cond.code ({ cls := "java/lang/Math", name := "max", desc := "(II)I" } : Jvm.MethodName) jdk_29_method_65_code (2 : Nat) (Option.some Jvm.ClassFile.FieldType.int), Jvm.Cond.code ({ cls := "com/example/strictwire/strictwire/ValueList", name := "copyOf", desc := "(Ljava/util/List;)Ljava/util/List;" } : Jvm.MethodName) prog_38_method_5_code (2 : Nat) (Option.some (Jvm.ClassFile.FieldType.object "java/util/List")), Jvm.Cond.code ({ cls := "com/example/strictwire/strictwire/I32Value", name := "type", desc := "()Lcom/example/strictwire/strictwire/WireType;" } : Jvm.MethodName) prog_15_method_2_code (1 : Nat) (Option.some (Jvm.ClassFile.FieldType.object "com/example/strictwire/strictwire/WireType")), Jvm.Cond.code ({ cls := "com/example/strictwire/strictwire/ValueList", name := "ofElements", desc := "([Lcom/example/strictwire/strictwire/Value;Lcom/example/strictwire/strictwire/WireType;)Lcom/example/strictwire/strictwire/ValueList;" } : Jvm.MethodName) prog_38_method_3_code (2 : Nat) (Option.some (Jvm.ClassFile.FieldType.object "com/example/strictwire/strictwire/ValueList")), Jvm.Cond.code ({ cls := "java/util/List", name := "copyOf", desc := "(Ljava/util/Collection;)Ljava/util/List;" } : Jvm.MethodName) jdk_40_method_48_code (1 : Nat) (Option.some (Jvm.ClassFile.FieldType.object "java/util/List")), Jvm.Cond.code ({ cls := "java/util/ImmutableCollections", name := "listCopy", desc := "(Ljava/util/Collection;)Ljava/util/List;" } : Jvm.MethodName) jdk_56_method_3_code (2 : Nat) (Option.some (Jvm.ClassFile.FieldType.object "java/util/List")), Jvm.Cond.code ({ cls := "java/util/ArrayList", name := "isEmpty", desc := "()Z" } : Jvm.MethodName) jdk_38_method_9_code (1 : Nat) (Option.some Jvm.ClassFile.FieldType.boolean), Jvm.Cond.code ({ cls := "java/util/ArrayList", name := "toArray", desc := "()[Ljava/lang/Object;" } : Jvm.MethodName) jdk_38_method_16_code (1 : Nat) (Option.some (Jvm.ClassFile.FieldType.array (Jvm.ClassFile.FieldType.object "java/lang/Object"))), Jvm.Cond.code ({ cls := "java/util/Arrays", name := "copyOf", desc := "([Ljava/lang/Object;I)[Ljava/lang/Object;" } : Jvm.MethodName) jdk_65_method_119_code (2 : Nat) (Option.some (Jvm.ClassFile.FieldType.array (Jvm.ClassFile.FieldType.object "java/lang/Object"))), Jvm.Cond.code ({ cls := "java/util/Arrays", name := "copyOf", desc := "([Ljava/lang/Object;ILjava/lang/Class;)[Ljava/lang/Object;" } : Jvm.MethodName) jdk_65_method_120_code (4 : Nat) (Option.some (Jvm.ClassFile.FieldType.array (Jvm.ClassFile.FieldType.object "java/lang/Object"))), Jvm.Cond.code ({ cls := "java/lang/Math", name := "min", desc := "(II)I" } : Jvm.MethodName) jdk_29_method_69_code (2 : Nat) (Option.some Jvm.ClassFile.FieldType.int), Jvm.Cond.code ({ cls := "java/util/List", name := "of", desc := "([Ljava/lang/Object;)Ljava/util/List;" } : Jvm.MethodName) jdk_40_method_47_code (2 : Nat) (Option.some (Jvm.ClassFile.FieldType.object "java/util/List")), Jvm.Cond.code ({ cls := "java/util/ImmutableCollections$List12", name := "<init>", desc := "(Ljava/lang/Object;Ljava/lang/Object;)V" } : Jvm.MethodName) jdk_44_method_2_code (3 : Nat) (Option.none : Option Jvm.ClassFile.FieldType), Jvm.Cond.code ({ cls := "java/util/ImmutableCollections$AbstractImmutableList", name := "<init>", desc := "()V" } : Jvm.MethodName) jdk_46_method_1_code (1 : Nat) (Option.none : Option Jvm.ClassFile.FieldType), Jvm.Cond.code ({ cls := "java/util/ImmutableCollections$AbstractImmutableCollection", name := "<init>", desc := "()V" } : Jvm.MethodName) jdk_47_method_1_code (1 : Nat) (Option.none : Option Jvm.ClassFile.FieldType), Jvm.Cond.code ({ cls := "java/util/Objects", name := "requireNonNull", desc := "(Ljava/lang/Object;)Ljava/lang/Object;" } : Jvm.MethodName) jdk_31_method_10_code (1 : Nat) (Option.some (Jvm.ClassFile.FieldType.object "java/lang/Object")), Jvm.Cond.code ({ cls := "java/util/List", name := "of", desc := "()Ljava/util/List;" } : Jvm.MethodName) jdk_40_method_36_code (0 : Nat) (Option.some (Jvm.ClassFile.FieldType.object "java/util/List"))]
set_option maxRecDepth 65536 in
theorem codes_eq : words1.filter isCode = codes1 := rfl
theorem w_codes : ∀ c ∈ words1.filter isCode, c.before args0 about1 = true := by
  rw [codes_eq]
  intro c hc
  simp only [codes1, List.mem_cons, List.not_mem_nil, or_false] at hc
  rcases hc with rfl | rfl | rfl | rfl | rfl | rfl | rfl | rfl | rfl | rfl | rfl | rfl | rfl | rfl | rfl | rfl | rfl | rfl | rfl | rfl | rfl | rfl | rfl | rfl | rfl | rfl | rfl | rfl | rfl | rfl | rfl | rfl | rfl
  · exact w_c0
  · exact w_c1
  · exact w_c2
  · exact w_c3
  · exact w_c4
  · exact w_c5
  · exact w_c6
  · exact w_c7
  · exact w_c8
  · exact w_c9
  · exact w_c10
  · exact w_c11
  · exact w_c12
  · exact w_c13
  · exact w_c14
  · exact w_c15
  · exact w_c16
  · exact w_c17
  · exact w_c18
  · exact w_c19
  · exact w_c20
  · exact w_c21
  · exact w_c22
  · exact w_c23
  · exact w_c24
  · exact w_c25
  · exact w_c26
  · exact w_c27
  · exact w_c28
  · exact w_c29
  · exact w_c30
  · exact w_c31
  · exact w_c32
set_option maxRecDepth 65536 in
theorem w_t1 : (words1.take 24).all (fun c => isCode c || c.before args0 about1) = true := by decide +kernel
set_option maxRecDepth 65536 in
theorem w_t2 : ((words1.drop 24).take 24).all (fun c => isCode c || c.before args0 about1) = true := by decide +kernel
set_option maxRecDepth 65536 in
theorem w_t3 : (((words1.drop 24).drop 24).take 24).all (fun c => isCode c || c.before args0 about1) = true := by decide +kernel
set_option maxRecDepth 65536 in
theorem w_t4 : ((((words1.drop 24).drop 24).drop 24).take 24).all (fun c => isCode c || c.before args0 about1) = true := by decide +kernel
set_option maxRecDepth 65536 in
theorem w_t5 : (((((words1.drop 24).drop 24).drop 24).drop 24).take 24).all (fun c => isCode c || c.before args0 about1) = true := by decide +kernel
set_option maxRecDepth 65536 in
theorem w_t6 : ((((((words1.drop 24).drop 24).drop 24).drop 24).drop 24).take 24).all (fun c => isCode c || c.before args0 about1) = true := by decide +kernel
set_option maxRecDepth 65536 in
theorem w_t7 : (((((((words1.drop 24).drop 24).drop 24).drop 24).drop 24).drop 24).take 24).all (fun c => isCode c || c.before args0 about1) = true := by decide +kernel
set_option maxRecDepth 65536 in
theorem w_t8 : ((((((((words1.drop 24).drop 24).drop 24).drop 24).drop 24).drop 24).drop 24).take 24).all (fun c => isCode c || c.before args0 about1) = true := by decide +kernel
set_option maxRecDepth 65536 in
theorem w_t9 : (((((((((words1.drop 24).drop 24).drop 24).drop 24).drop 24).drop 24).drop 24).drop 24).take 24).all (fun c => isCode c || c.before args0 about1) = true := by decide +kernel
set_option maxRecDepth 65536 in
theorem w_t10 : (((((((((words1.drop 24).drop 24).drop 24).drop 24).drop 24).drop 24).drop 24).drop 24).drop 24).all (fun c => isCode c || c.before args0 about1) = true := by decide +kernel
theorem w_tables : (allAtoms (Jvm.Cond.code x code maxLocals ret :: tables_1)).before args0 about1 = true := by
  rw [allAtoms_all]
  show words1.all (fun c => c.before args0 about1) = true
  refine all_split ?_ w_codes
  rw [← List.take_append_drop 24 words1, List.all_append, w_t1, ← List.take_append_drop 24 (words1.drop 24), List.all_append, w_t2, ← List.take_append_drop 24 ((words1.drop 24).drop 24), List.all_append, w_t3, ← List.take_append_drop 24 (((words1.drop 24).drop 24).drop 24), List.all_append, w_t4, ← List.take_append_drop 24 ((((words1.drop 24).drop 24).drop 24).drop 24), List.all_append, w_t5, ← List.take_append_drop 24 (((((words1.drop 24).drop 24).drop 24).drop 24).drop 24), List.all_append, w_t6, ← List.take_append_drop 24 ((((((words1.drop 24).drop 24).drop 24).drop 24).drop 24).drop 24), List.all_append, w_t7, ← List.take_append_drop 24 (((((((words1.drop 24).drop 24).drop 24).drop 24).drop 24).drop 24).drop 24), List.all_append, w_t8, ← List.take_append_drop 24 ((((((((words1.drop 24).drop 24).drop 24).drop 24).drop 24).drop 24).drop 24).drop 24), List.all_append, w_t9, w_t10]
  rfl
set_option maxRecDepth 65536 in
theorem w_rest : rest_1_c.before args0 about1 = true := by decide +kernel
set_option maxRecDepth 65536 in
theorem w_case : (Jvm.Cond.and given_1 narrow_1).before args0 about1 = true := by decide +kernel
theorem w_applies : (headSpec (Jvm.Cond.code x code maxLocals ret :: tables_1) room_1).applies x e0.platform about1 = true :=
  (Spec.applies_iff w_frames).mpr ⟨w_running, w_runnable, w_alone, w_named, w_hears, w_ripe, w_room, w_tables⟩
theorem atStart : AtStart classFile x code maxLocals ret World_1 tables_1 room_1 Calls_1 rest_1 Pre_1 launch0 p0 e0 about1 theMethod args0 below0 :=
  ⟨lists_1, trivial, launch0.admits_env _ _ _, launch0.least_env, fairChoices_fair.cas, fairChoices_fair.clock, w_frames, w_args, w_heap, w_applies, ⟨⟨39, k39, 8, by decide +kernel, rfl, rfl, _, rfl, rfl⟩, trivial⟩, w_rest, w_case⟩
end start1
theorem witness_1 : WitnessClaimed_1 := ⟨start1.p0, start1.e0, start1.about1, start1.theMethod, start1.args0, start1.below0, start1.atStart⟩
end Jvm.Pilot.@@N@@
