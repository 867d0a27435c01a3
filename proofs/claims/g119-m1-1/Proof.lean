import JvmDerived
import JvmDerived.Pilot.@@N@@Statement
import JvmDerived.Pilot.@@N@@Code
set_option linter.unusedVariables false
set_option linter.unusedSimpArgs false
namespace Jvm.Pilot.@@N@@
open Jvm Jvm.ClassFile Sem Op Lib Jvm.Free Jvm.Stand Jvm.LawKit Jvm.RoadKit Bundle Jvm.Pilot.@@N@@.Jvm.D
/-! THE WALK, SAID FORWARD: `G w Q h k n pc Ls st` says: from every point of the walk `w` whose heap is h, with k cells and n slots made, standing at pc with the locals Ls and the stack st, the run ends in a return that meets Q. One law a step carries G from the next point back to this one. -/
abbrev Wk := Program × Launch × Env × Room × State × MethodId × Array Value × List Frame × Method × Code × Nat
abbrev Wk.p (w : Wk) : Program := w.1
abbrev Wk.l (w : Wk) : Launch := w.2.1
abbrev Wk.e (w : Wk) : Env := w.2.2.1
abbrev Wk.R (w : Wk) : Room := w.2.2.2.1
abbrev Wk.s (w : Wk) : State := w.2.2.2.2.1
abbrev Wk.m (w : Wk) : MethodId := w.2.2.2.2.2.1
abbrev Wk.args (w : Wk) : Array Value := w.2.2.2.2.2.2.1
abbrev Wk.below (w : Wk) : List Frame := w.2.2.2.2.2.2.2.1
abbrev Wk.meth (w : Wk) : Method := w.2.2.2.2.2.2.2.2.1
abbrev Wk.c (w : Wk) : Code := w.2.2.2.2.2.2.2.2.2.1
abbrev Wk.n0 (w : Wk) : Nat := w.2.2.2.2.2.2.2.2.2.2
def Cx (w : Wk) (l : Launch) (Z : State) (own : String) (bytes : ByteArray) (mx : Nat) (rt : Option FieldType) (nm : String) (rm : Room) (n0 : Nat) : Prop :=
  w.l = l ∧ w.p.tables.exec = Jvm.exec ∧ Z.Warmed39 w.s.vm ∧ w.c.code = bytes ∧ w.c.maxLocals = mx ∧ w.s.vm.findClass own = some w.m.cls ∧ w.meth.sig.returnType = rt ∧ w.meth.locks = false ∧ w.meth.name = nm ∧ w.R = rm ∧ w.n0 = n0
def Ends (w : Wk) (Q : Option Value → Heap → Prop) (A : State) : Prop :=
  ∃ s₂ o, Steps w.p.tables w.e w.below A s₂ ∧ s₂.status = .running ∧ Ended s₂ w.below o ∧ ∃ v L, o = .returned v ∧ (Q v s₂.heap ∧ Fr w.n0 L) ∧ FrameEnd w.s o s₂ L w.R.cells w.R.slots
def G (w : Wk) (Q : Option Value → Heap → Prop) (h : Heap) (k n pc : Nat) (Ls : Array Slot) (st : List Value) : Prop :=
  ∀ (T : State) (locs : List Loc), Stand w.p w.l w.e w.R w.s w.m w.args w.below w.meth w.c T locs k n → T.heap = h → Fr w.n0 locs → Ends w Q (T.setTop (mkF w.m pc Ls st))
def Con (l : Launch) (Z : State) (y : MethodName) (bytes : ByteArray) (mx : Nat) (rt : Option FieldType) (rm : Room) (as : Array Value) (h : Heap) (n0 : Nat) (Q : Option Value → Heap → Prop) : Prop :=
  ∀ ws, MetFree l y (head1 (Jvm.Cond.code y bytes mx rt :: ws) rm) (fun a U => a = as ∧ Z.Warmed39 U.vm ∧ U.heap = h) (fun _ _ _ _ _ => True) (fun _ U o U' => ∃ v L, o = .returned v ∧ (Q v U'.heap ∧ Fr n0 L) ∧ FrameEnd U o U' L rm.cells rm.slots)
def psh (v : Option Value) (st : List Value) : List Value := match v with | none => st | some x => x :: st
theorem psh_eq (v : Option Value) (st : List Value) : v.toList ++ st = psh v st := by cases v <;> rfl
section Gs
variable {w : Wk} {l : Launch} {Z : State} {own : String} {bytes : ByteArray} {mx : Nat} {rt : Option FieldType} {nm : String} {rm : Room} {n0 : Nat} {Q : Option Value → Heap → Prop} {h : Heap} {k n pc pc' : Nat} {Ls Ls' : Array Slot} {st rest : List Value} {a0 : Array Value} {t : FieldType} {k' n' : Nat}
theorem Con.mk {y : MethodName} {as : Array Value} (hp : plainFor y = true) (hef : ∀ m, entryFrame m as mx = mkF m 0 Ls []) (body : ∀ w : Wk, Cx w l Z y.cls bytes mx rt y.name rm n0 → G w Q h 0 0 0 Ls []) : Con l Z y bytes mx rt rm as h n0 Q := by
  intro ws
  refine MetFree.of_bodySF hp hisR ?_
  intro p e s m args below meth c s₁ Bd hml0 hP hK
  obtain ⟨rfl, hZ, hh⟩ := hP
  have X0 : Stand p l e rm s m args below meth c s₁ [] 0 0 := Stand.of_body Bd
  have e0 : s₁.heap = h := by rw [← hh, Bd.state]; rfl
  obtain ⟨s₂, o, h1, h2, h3, h4⟩ := body (p, l, e, rm, s, m, args, below, meth, c, n0) ⟨rfl, Bd.exec, hZ, Bd.bytes, hml0, findClass_of_methodNamed Bd.named, Bd.returns, Bd.notSynchronized, (name_of_methodNamed Bd.named Bd.method).1, rfl, rfl⟩ s₁ [] X0 e0 (Fr.nil n0)
  exact ⟨s₂, o, castTop (hef m) h1, h2, h3, h4⟩
theorem Cx.ex (C : Cx w l Z own bytes mx rt nm rm n0) : w.p.tables.exec = Jvm.exec := C.2.1
theorem Cx.hZ (C : Cx w l Z own bytes mx rt nm rm n0) : Z.Warmed39 w.s.vm := C.2.2.1
theorem Cx.dec (C : Cx w l Z own bytes mx rt nm rm n0) {r : Except DecodeError (Instr × Nat)} (hd : decode bytes pc = r) : decode w.c.code pc = r := hb C.2.2.2.1 hd
theorem Cx.ow (C : Cx w l Z own bytes mx rt nm rm n0) : w.s.vm.findClass own = some w.m.cls := C.2.2.2.2.2.1
theorem Cx.ml (C : Cx w l Z own bytes mx rt nm rm n0) : w.c.maxLocals = mx := C.2.2.2.2.1
theorem Cx.ret (C : Cx w l Z own bytes mx rt nm rm n0) : w.meth.sig.returnType = rt := C.2.2.2.2.2.2.1
theorem Cx.lk (C : Cx w l Z own bytes mx rt nm rm n0) : w.meth.locks = false := C.2.2.2.2.2.2.2.1
theorem Cx.mn (C : Cx w l Z own bytes mx rt nm rm n0) : w.meth.name = nm := C.2.2.2.2.2.2.2.2.1
theorem Cx.ro (C : Cx w l Z own bytes mx rt nm rm n0) : w.R = rm := C.2.2.2.2.2.2.2.2.2.1
theorem Cx.nn (C : Cx w l Z own bytes mx rt nm rm n0) : w.n0 = n0 := C.2.2.2.2.2.2.2.2.2.2
theorem G.adv (st' : ∀ T locs, Stand w.p w.l w.e w.R w.s w.m w.args w.below w.meth w.c T locs k n → T.heap = h → ∀ t, Steps w.p.tables w.e w.below (T.setTop (mkF w.m pc' Ls' rest)) t → Steps w.p.tables w.e w.below (T.setTop (mkF w.m pc Ls st)) t) (g : G w Q h k n pc' Ls' rest) : G w Q h k n pc Ls st :=
  fun T locs X eT N => let ⟨s₂, o, h1, h2⟩ := g T locs X eT N; ⟨s₂, o, st' T locs X eT _ h1, h2⟩
theorem G.to {T T' : State} {locs' : List Loc} {h' : Heap} {k' n' : Nat} (X' : Stand w.p w.l w.e w.R w.s w.m w.args w.below w.meth w.c T' locs' k' n') (eT : T'.heap = h') (N : Fr w.n0 locs') (s' : ∀ t, Steps w.p.tables w.e w.below (T'.setTop (mkF w.m pc' Ls' rest)) t → Steps w.p.tables w.e w.below (T.setTop (mkF w.m pc Ls st)) t) (g : G w Q h' k' n' pc' Ls' rest) : Ends w Q (T.setTop (mkF w.m pc Ls st)) :=
  let ⟨s₂, o, h1, h2⟩ := g T' locs' X' eT N; ⟨s₂, o, s' _ h1, h2⟩
theorem G.more (hk : k ≤ k') (hn : n ≤ n') (g : G w Q h k' n' pc Ls st) : G w Q h k n pc Ls st := fun T locs X eT N => g T locs (X.more hk hn) eT N
/-! plain steps -/
theorem g_aloadN (C : Cx w l Z own bytes mx rt nm rm n0) {i : Fin 4} {v : Value} (hd : decode bytes pc = .ok (.aload_n i, 1)) (hl : Ls[i.val]? = some (.val v)) (hv : v.isRef = true) (hp : pc + 1 = pc') (g : G w Q h k n pc' Ls (v :: st)) : G w Q h k n pc Ls st := by
  subst hp; exact g.adv fun T locs X _ t r => XS.aloadN X.here C.ex rfl (C.dec hd) hl hv r
theorem g_aload (C : Cx w l Z own bytes mx rt nm rm n0) {i : Nat} {v : Value} (hd : decode bytes pc = .ok (.aload i, 2)) (hl : Ls[i]? = some (.val v)) (hv : v.isRef = true) (hp : pc + 2 = pc') (g : G w Q h k n pc' Ls (v :: st)) : G w Q h k n pc Ls st := by
  subst hp; exact g.adv fun T locs X _ t r => XS.aload X.here C.ex rfl (C.dec hd) hl hv r
theorem g_iloadN (C : Cx w l Z own bytes mx rt nm rm n0) {i : Fin 4} {v : Int32} (hd : decode bytes pc = .ok (.iload_n i, 1)) (hl : Ls[i.val]? = some (.val (.int v))) (hp : pc + 1 = pc') (g : G w Q h k n pc' Ls (.int v :: st)) : G w Q h k n pc Ls st := by
  subst hp; exact g.adv fun T locs X _ t r => XS.iloadN X.here C.ex rfl (C.dec hd) hl r
theorem g_iload (C : Cx w l Z own bytes mx rt nm rm n0) {i : Nat} {v : Int32} (hd : decode bytes pc = .ok (.iload i, 2)) (hl : Ls[i]? = some (.val (.int v))) (hp : pc + 2 = pc') (g : G w Q h k n pc' Ls (.int v :: st)) : G w Q h k n pc Ls st := by
  subst hp; exact g.adv fun T locs X _ t r => XS.iload X.here C.ex rfl (C.dec hd) hl r
theorem g_lloadN (C : Cx w l Z own bytes mx rt nm rm n0) {i : Fin 4} {v : Int64} (hd : decode bytes pc = .ok (.lload_n i, 1)) (hl : Ls[i.val]? = some (.val (.long v))) (hp : pc + 1 = pc') (g : G w Q h k n pc' Ls (.long v :: st)) : G w Q h k n pc Ls st := by
  subst hp; exact g.adv fun T locs X _ t r => XS.lloadN X.here C.ex rfl (C.dec hd) hl r
theorem g_lload (C : Cx w l Z own bytes mx rt nm rm n0) {i : Nat} {v : Int64} (hd : decode bytes pc = .ok (.lload i, 2)) (hl : Ls[i]? = some (.val (.long v))) (hp : pc + 2 = pc') (g : G w Q h k n pc' Ls (.long v :: st)) : G w Q h k n pc Ls st := by
  subst hp; exact g.adv fun T locs X _ t r => XS.lload X.here C.ex rfl (C.dec hd) hl r
theorem g_istoreN (C : Cx w l Z own bytes mx rt nm rm n0) {i : Fin 4} {x : Int32} (hd : decode bytes pc = .ok (.istore_n i, 1)) (hs : st = .int x :: rest) (hl : storeLocals Ls i.val (.int x) = some Ls') (hp : pc + 1 = pc') (g : G w Q h k n pc' Ls' rest) : G w Q h k n pc Ls st := by
  subst hp; exact g.adv fun T locs X _ t r => XS.istoreN X.here C.ex rfl (C.dec hd) hs hl r
theorem g_istore (C : Cx w l Z own bytes mx rt nm rm n0) {i : Nat} {x : Int32} (hd : decode bytes pc = .ok (.istore i, 2)) (hs : st = .int x :: rest) (hl : storeLocals Ls i (.int x) = some Ls') (hp : pc + 2 = pc') (g : G w Q h k n pc' Ls' rest) : G w Q h k n pc Ls st := by
  subst hp; exact g.adv fun T locs X _ t r => XS.istore X.here C.ex rfl (C.dec hd) hs hl r
theorem g_lstoreN (C : Cx w l Z own bytes mx rt nm rm n0) {i : Fin 4} {x : Int64} (hd : decode bytes pc = .ok (.lstore_n i, 1)) (hs : st = .long x :: rest) (hl : storeLocals Ls i.val (.long x) = some Ls') (hp : pc + 1 = pc') (g : G w Q h k n pc' Ls' rest) : G w Q h k n pc Ls st := by
  subst hp; exact g.adv fun T locs X _ t r => XS.lstoreN X.here C.ex rfl (C.dec hd) hs hl r
theorem g_lstore (C : Cx w l Z own bytes mx rt nm rm n0) {i : Nat} {x : Int64} (hd : decode bytes pc = .ok (.lstore i, 2)) (hs : st = .long x :: rest) (hl : storeLocals Ls i (.long x) = some Ls') (hp : pc + 2 = pc') (g : G w Q h k n pc' Ls' rest) : G w Q h k n pc Ls st := by
  subst hp; exact g.adv fun T locs X _ t r => XS.lstore X.here C.ex rfl (C.dec hd) hs hl r
theorem g_astoreN (C : Cx w l Z own bytes mx rt nm rm n0) {i : Fin 4} {x : Value} (hd : decode bytes pc = .ok (.astore_n i, 1)) (hs : st = x :: rest) (hv : x.isRef = true) (hl : storeLocals Ls i.val x = some Ls') (hp : pc + 1 = pc') (g : G w Q h k n pc' Ls' rest) : G w Q h k n pc Ls st := by
  subst hp; exact g.adv fun T locs X _ t r => XS.astoreN X.here C.ex rfl (C.dec hd) hs hv hl r
theorem g_astore (C : Cx w l Z own bytes mx rt nm rm n0) {i : Nat} {x : Value} (hd : decode bytes pc = .ok (.astore i, 2)) (hs : st = x :: rest) (hv : x.isRef = true) (hl : storeLocals Ls i x = some Ls') (hp : pc + 2 = pc') (g : G w Q h k n pc' Ls' rest) : G w Q h k n pc Ls st := by
  subst hp; exact g.adv fun T locs X _ t r => XS.astore X.here C.ex rfl (C.dec hd) hs hv hl r
theorem g_iinc (C : Cx w l Z own bytes mx rt nm rm n0) {i : Nat} {cst : Int} {x : Int32} (hd : decode bytes pc = .ok (.iinc i cst, 3)) (hl : Ls[i]? = some (.val (.int x))) (hl' : storeLocals Ls i (.int (x + Int32.ofInt cst)) = some Ls') (hp : pc + 3 = pc') (g : G w Q h k n pc' Ls' st) : G w Q h k n pc Ls st := by
  subst hp; exact g.adv fun T locs X _ t r => XS.iinc X.here C.ex rfl (C.dec hd) hl hl' r
theorem g_iconst (C : Cx w l Z own bytes mx rt nm rm n0) {i : Int} {v : Int32} (hd : decode bytes pc = .ok (.iconst i, 1)) (hv : Int32.ofInt i = v) (hp : pc + 1 = pc') (g : G w Q h k n pc' Ls (.int v :: st)) : G w Q h k n pc Ls st := by
  subst hp hv; exact g.adv fun T locs X _ t r => XS.iconst X.here C.ex rfl (C.dec hd) r
theorem g_bipush (C : Cx w l Z own bytes mx rt nm rm n0) {i : Int} {v : Int32} (hd : decode bytes pc = .ok (.bipush i, 2)) (hv : (Int8.ofInt i).toInt32 = v) (hp : pc + 2 = pc') (g : G w Q h k n pc' Ls (.int v :: st)) : G w Q h k n pc Ls st := by
  subst hp hv; exact g.adv fun T locs X _ t r => XS.bipush X.here C.ex rfl (C.dec hd) r
theorem g_sipush (C : Cx w l Z own bytes mx rt nm rm n0) {i : Int} {v : Int32} (hd : decode bytes pc = .ok (.sipush i, 3)) (hv : (Int16.ofInt i).toInt32 = v) (hp : pc + 3 = pc') (g : G w Q h k n pc' Ls (.int v :: st)) : G w Q h k n pc Ls st := by
  subst hp hv; exact g.adv fun T locs X _ t r => XS.sipush X.here C.ex rfl (C.dec hd) r
theorem g_lconst (C : Cx w l Z own bytes mx rt nm rm n0) {i : Fin 2} {v : Int64} (hd : decode bytes pc = .ok (.lconst i, 1)) (hv : Int64.ofNat i.val = v) (hp : pc + 1 = pc') (g : G w Q h k n pc' Ls (.long v :: st)) : G w Q h k n pc Ls st := by
  subst hp hv; exact g.adv fun T locs X _ t r => XS.lconst X.here C.ex rfl (C.dec hd) r
theorem g_aconstNull (C : Cx w l Z own bytes mx rt nm rm n0) (hd : decode bytes pc = .ok (.aconst_null, 1)) (hp : pc + 1 = pc') (g : G w Q h k n pc' Ls (.null :: st)) : G w Q h k n pc Ls st := by
  subst hp; exact g.adv fun T locs X _ t r => XS.aconstNull X.here C.ex rfl (C.dec hd) r
theorem g_ldcInt (C : Cx w l Z own bytes mx rt nm rm n0) {i : Nat} {v : Int32} (hw : (Jvm.Cond.constant own i v).before a0 Z = true) (hd : decode bytes pc = .ok (.ldc i, 2)) (hp : pc + 2 = pc') (g : G w Q h k n pc' Ls (.int v :: st)) : G w Q h k n pc Ls st := by
  subst hp; exact g.adv fun T locs X _ t r => X.ldcInt C.ex C.ow (mvT C.hZ hw) (g := mkF w.m pc Ls st) rfl (C.dec hd) t r
theorem g_ldc2Long (C : Cx w l Z own bytes mx rt nm rm n0) {i : Nat} {v : Int64} (hw : (Jvm.Cond.constantLong own i v).before a0 Z = true) (hd : decode bytes pc = .ok (.ldc2_w i, 3)) (hp : pc + 3 = pc') (g : G w Q h k n pc' Ls (.long v :: st)) : G w Q h k n pc Ls st := by
  subst hp; exact g.adv fun T locs X _ t r => X.ldc2Long C.ex C.ow (mvT C.hZ hw) (g := mkF w.m pc Ls st) rfl (C.dec hd) t r
theorem g_iadd (C : Cx w l Z own bytes mx rt nm rm n0) {x y : Int32} (hd : decode bytes pc = .ok (.iadd, 1)) (hs : st = .int y :: .int x :: rest) (hp : pc + 1 = pc') (g : G w Q h k n pc' Ls (.int (x + y) :: rest)) : G w Q h k n pc Ls st := by
  subst hp; exact g.adv fun T locs X _ t r => XS.iadd X.here C.ex rfl (C.dec hd) hs r
theorem g_isub (C : Cx w l Z own bytes mx rt nm rm n0) {x y : Int32} (hd : decode bytes pc = .ok (.isub, 1)) (hs : st = .int y :: .int x :: rest) (hp : pc + 1 = pc') (g : G w Q h k n pc' Ls (.int (x - y) :: rest)) : G w Q h k n pc Ls st := by
  subst hp; exact g.adv fun T locs X _ t r => XS.isub X.here C.ex rfl (C.dec hd) hs r
theorem g_imul (C : Cx w l Z own bytes mx rt nm rm n0) {x y : Int32} (hd : decode bytes pc = .ok (.imul, 1)) (hs : st = .int y :: .int x :: rest) (hp : pc + 1 = pc') (g : G w Q h k n pc' Ls (.int (x * y) :: rest)) : G w Q h k n pc Ls st := by
  subst hp; exact g.adv fun T locs X _ t r => XS.imul X.here C.ex rfl (C.dec hd) hs r
theorem g_iand (C : Cx w l Z own bytes mx rt nm rm n0) {x y : Int32} (hd : decode bytes pc = .ok (.iand, 1)) (hs : st = .int y :: .int x :: rest) (hp : pc + 1 = pc') (g : G w Q h k n pc' Ls (.int (x &&& y) :: rest)) : G w Q h k n pc Ls st := by
  subst hp; exact g.adv fun T locs X _ t r => XS.iand X.here C.ex rfl (C.dec hd) hs r
theorem g_ior (C : Cx w l Z own bytes mx rt nm rm n0) {x y : Int32} (hd : decode bytes pc = .ok (.ior, 1)) (hs : st = .int y :: .int x :: rest) (hp : pc + 1 = pc') (g : G w Q h k n pc' Ls (.int (x ||| y) :: rest)) : G w Q h k n pc Ls st := by
  subst hp; exact g.adv fun T locs X _ t r => XS.ior X.here C.ex rfl (C.dec hd) hs r
theorem g_ixor (C : Cx w l Z own bytes mx rt nm rm n0) {x y : Int32} (hd : decode bytes pc = .ok (.ixor, 1)) (hs : st = .int y :: .int x :: rest) (hp : pc + 1 = pc') (g : G w Q h k n pc' Ls (.int (x ^^^ y) :: rest)) : G w Q h k n pc Ls st := by
  subst hp; exact g.adv fun T locs X _ t r => XS.ixor X.here C.ex rfl (C.dec hd) hs r
theorem g_ladd (C : Cx w l Z own bytes mx rt nm rm n0) {x y : Int64} (hd : decode bytes pc = .ok (.ladd, 1)) (hs : st = .long y :: .long x :: rest) (hp : pc + 1 = pc') (g : G w Q h k n pc' Ls (.long (x + y) :: rest)) : G w Q h k n pc Ls st := by
  subst hp; exact g.adv fun T locs X _ t r => XS.ladd X.here C.ex rfl (C.dec hd) hs r
theorem g_lsub (C : Cx w l Z own bytes mx rt nm rm n0) {x y : Int64} (hd : decode bytes pc = .ok (.lsub, 1)) (hs : st = .long y :: .long x :: rest) (hp : pc + 1 = pc') (g : G w Q h k n pc' Ls (.long (x - y) :: rest)) : G w Q h k n pc Ls st := by
  subst hp; exact g.adv fun T locs X _ t r => XS.lsub X.here C.ex rfl (C.dec hd) hs r
theorem g_lmul (C : Cx w l Z own bytes mx rt nm rm n0) {x y : Int64} (hd : decode bytes pc = .ok (.lmul, 1)) (hs : st = .long y :: .long x :: rest) (hp : pc + 1 = pc') (g : G w Q h k n pc' Ls (.long (x * y) :: rest)) : G w Q h k n pc Ls st := by
  subst hp; exact g.adv fun T locs X _ t r => XS.lmul X.here C.ex rfl (C.dec hd) hs r
theorem g_land (C : Cx w l Z own bytes mx rt nm rm n0) {x y : Int64} (hd : decode bytes pc = .ok (.land, 1)) (hs : st = .long y :: .long x :: rest) (hp : pc + 1 = pc') (g : G w Q h k n pc' Ls (.long (x &&& y) :: rest)) : G w Q h k n pc Ls st := by
  subst hp; exact g.adv fun T locs X _ t r => XS.land X.here C.ex rfl (C.dec hd) hs r
theorem g_lor (C : Cx w l Z own bytes mx rt nm rm n0) {x y : Int64} (hd : decode bytes pc = .ok (.lor, 1)) (hs : st = .long y :: .long x :: rest) (hp : pc + 1 = pc') (g : G w Q h k n pc' Ls (.long (x ||| y) :: rest)) : G w Q h k n pc Ls st := by
  subst hp; exact g.adv fun T locs X _ t r => XS.lor X.here C.ex rfl (C.dec hd) hs r
theorem g_lxor (C : Cx w l Z own bytes mx rt nm rm n0) {x y : Int64} (hd : decode bytes pc = .ok (.lxor, 1)) (hs : st = .long y :: .long x :: rest) (hp : pc + 1 = pc') (g : G w Q h k n pc' Ls (.long (x ^^^ y) :: rest)) : G w Q h k n pc Ls st := by
  subst hp; exact g.adv fun T locs X _ t r => XS.lxor X.here C.ex rfl (C.dec hd) hs r
theorem g_ishl (C : Cx w l Z own bytes mx rt nm rm n0) {x y : Int32} (hd : decode bytes pc = .ok (.ishl, 1)) (hs : st = .int y :: .int x :: rest) (hp : pc + 1 = pc') (g : G w Q h k n pc' Ls (.int (x <<< (y &&& 31)) :: rest)) : G w Q h k n pc Ls st := by
  subst hp; exact g.adv fun T locs X _ t r => XS.ishl X.here C.ex rfl (C.dec hd) hs r
theorem g_ishr (C : Cx w l Z own bytes mx rt nm rm n0) {x y : Int32} (hd : decode bytes pc = .ok (.ishr, 1)) (hs : st = .int y :: .int x :: rest) (hp : pc + 1 = pc') (g : G w Q h k n pc' Ls (.int (x >>> (y &&& 31)) :: rest)) : G w Q h k n pc Ls st := by
  subst hp; exact g.adv fun T locs X _ t r => XS.ishr X.here C.ex rfl (C.dec hd) hs r
theorem g_iushr (C : Cx w l Z own bytes mx rt nm rm n0) {x y : Int32} (hd : decode bytes pc = .ok (.iushr, 1)) (hs : st = .int y :: .int x :: rest) (hp : pc + 1 = pc') (g : G w Q h k n pc' Ls (.int ((x.toUInt32 >>> (y &&& 31).toUInt32).toInt32) :: rest)) : G w Q h k n pc Ls st := by
  subst hp; exact g.adv fun T locs X _ t r => XS.iushr X.here C.ex rfl (C.dec hd) hs r
theorem g_ineg (C : Cx w l Z own bytes mx rt nm rm n0) {x : Int32} (hd : decode bytes pc = .ok (.ineg, 1)) (hs : st = .int x :: rest) (hp : pc + 1 = pc') (g : G w Q h k n pc' Ls (.int (-x) :: rest)) : G w Q h k n pc Ls st := by
  subst hp; exact g.adv fun T locs X _ t r => XS.ineg X.here C.ex rfl (C.dec hd) hs r
theorem g_lneg (C : Cx w l Z own bytes mx rt nm rm n0) {x : Int64} (hd : decode bytes pc = .ok (.lneg, 1)) (hs : st = .long x :: rest) (hp : pc + 1 = pc') (g : G w Q h k n pc' Ls (.long (-x) :: rest)) : G w Q h k n pc Ls st := by
  subst hp; exact g.adv fun T locs X _ t r => XS.lneg X.here C.ex rfl (C.dec hd) hs r
theorem g_i2l (C : Cx w l Z own bytes mx rt nm rm n0) {x : Int32} (hd : decode bytes pc = .ok (.i2l, 1)) (hs : st = .int x :: rest) (hp : pc + 1 = pc') (g : G w Q h k n pc' Ls (.long x.toInt64 :: rest)) : G w Q h k n pc Ls st := by
  subst hp; exact g.adv fun T locs X _ t r => XS.i2l X.here C.ex rfl (C.dec hd) hs r
theorem g_l2i (C : Cx w l Z own bytes mx rt nm rm n0) {x : Int64} (hd : decode bytes pc = .ok (.l2i, 1)) (hs : st = .long x :: rest) (hp : pc + 1 = pc') (g : G w Q h k n pc' Ls (.int x.toInt32 :: rest)) : G w Q h k n pc Ls st := by
  subst hp; exact g.adv fun T locs X _ t r => XS.l2i X.here C.ex rfl (C.dec hd) hs r
theorem g_i2b (C : Cx w l Z own bytes mx rt nm rm n0) {x : Int32} (hd : decode bytes pc = .ok (.i2b, 1)) (hs : st = .int x :: rest) (hp : pc + 1 = pc') (g : G w Q h k n pc' Ls (.int x.toInt8.toInt32 :: rest)) : G w Q h k n pc Ls st := by
  subst hp; exact g.adv fun T locs X _ t r => XS.i2b X.here C.ex rfl (C.dec hd) hs r
theorem g_i2s (C : Cx w l Z own bytes mx rt nm rm n0) {x : Int32} (hd : decode bytes pc = .ok (.i2s, 1)) (hs : st = .int x :: rest) (hp : pc + 1 = pc') (g : G w Q h k n pc' Ls (.int x.toInt16.toInt32 :: rest)) : G w Q h k n pc Ls st := by
  subst hp; exact g.adv fun T locs X _ t r => XS.i2s X.here C.ex rfl (C.dec hd) hs r
theorem g_i2c (C : Cx w l Z own bytes mx rt nm rm n0) {x : Int32} (hd : decode bytes pc = .ok (.i2c, 1)) (hs : st = .int x :: rest) (hp : pc + 1 = pc') (g : G w Q h k n pc' Ls (.int x.toUInt32.toUInt16.toUInt32.toInt32 :: rest)) : G w Q h k n pc Ls st := by
  subst hp; exact g.adv fun T locs X _ t r => XS.i2c X.here C.ex rfl (C.dec hd) hs r
theorem g_irem (C : Cx w l Z own bytes mx rt nm rm n0) {x y : Int32} (hd : decode bytes pc = .ok (.irem, 1)) (hs : st = .int y :: .int x :: rest) (hy : y ≠ 0) (hp : pc + 1 = pc') (g : G w Q h k n pc' Ls (.int (x % y) :: rest)) : G w Q h k n pc Ls st := by
  subst hp; exact g.adv fun T locs X _ t r => iremM (g := mkF w.m pc Ls st) X C.ex rfl (C.dec hd) hs hy r
theorem g_idiv (C : Cx w l Z own bytes mx rt nm rm n0) {x y : Int32} (hd : decode bytes pc = .ok (.idiv, 1)) (hs : st = .int y :: .int x :: rest) (hy : y ≠ 0) (hp : pc + 1 = pc') (g : G w Q h k n pc' Ls (.int (x / y) :: rest)) : G w Q h k n pc Ls st := by
  subst hp; exact g.adv fun T locs X _ t r => XS.idiv X.here C.ex rfl (C.dec hd) hs hy r
theorem g_ldiv (C : Cx w l Z own bytes mx rt nm rm n0) {x y : Int64} (hd : decode bytes pc = .ok (.ldiv, 1)) (hs : st = .long y :: .long x :: rest) (hy : y ≠ 0) (hp : pc + 1 = pc') (g : G w Q h k n pc' Ls (.long (x / y) :: rest)) : G w Q h k n pc Ls st := by
  subst hp; exact g.adv fun T locs X _ t r => XS.ldiv X.here C.ex rfl (C.dec hd) hs hy r
theorem g_lrem (C : Cx w l Z own bytes mx rt nm rm n0) {x y : Int64} (hd : decode bytes pc = .ok (.lrem, 1)) (hs : st = .long y :: .long x :: rest) (hy : y ≠ 0) (hp : pc + 1 = pc') (g : G w Q h k n pc' Ls (.long (x - (x / y) * y) :: rest)) : G w Q h k n pc Ls st := by
  subst hp; exact g.adv fun T locs X _ t r => XS.lrem X.here C.ex rfl (C.dec hd) hs hy r
theorem g_lcmp (C : Cx w l Z own bytes mx rt nm rm n0) {x y : Int64} (hd : decode bytes pc = .ok (.lcmp, 1)) (hs : st = .long y :: .long x :: rest) (hp : pc + 1 = pc') (g : G w Q h k n pc' Ls (.int (lcmpW x y) :: rest)) : G w Q h k n pc Ls st := by
  subst hp; exact g.adv fun T locs X _ t r => XS.lcmp X.here C.ex rfl (C.dec hd) hs r
theorem g_dup (C : Cx w l Z own bytes mx rt nm rm n0) {x : Value} (hd : decode bytes pc = .ok (.dup, 1)) (hs : st = x :: rest) (hc : x.category = 1) (hp : pc + 1 = pc') (g : G w Q h k n pc' Ls (x :: x :: rest)) : G w Q h k n pc Ls st := by
  subst hp; exact g.adv fun T locs X _ t r => XS.dup X.here C.ex rfl (C.dec hd) hs hc r
theorem g_pop (C : Cx w l Z own bytes mx rt nm rm n0) {x : Value} (hd : decode bytes pc = .ok (.pop, 1)) (hs : st = x :: rest) (hc : x.category = 1) (hp : pc + 1 = pc') (g : G w Q h k n pc' Ls rest) : G w Q h k n pc Ls st := by
  subst hp; exact g.adv fun T locs X _ t r => XS.pop X.here C.ex rfl (C.dec hd) hs hc r
theorem g_dup_x1 (C : Cx w l Z own bytes mx rt nm rm n0) {x y : Value} (hd : decode bytes pc = .ok (.dup_x1, 1)) (hs : st = x :: y :: rest) (hc : x.category = 1) (hc' : y.category = 1) (hp : pc + 1 = pc') (g : G w Q h k n pc' Ls (x :: y :: x :: rest)) : G w Q h k n pc Ls st := by
  subst hp; exact g.adv fun T locs X _ t r => XS.dupX1 X.here C.ex rfl (C.dec hd) hs hc hc' r
theorem g_dup2 (C : Cx w l Z own bytes mx rt nm rm n0) {x y : Value} (hd : decode bytes pc = .ok (.dup2, 1)) (hs : st = x :: y :: rest) (hc : x.category = 1) (hc' : y.category = 1) (hp : pc + 1 = pc') (g : G w Q h k n pc' Ls (x :: y :: x :: y :: rest)) : G w Q h k n pc Ls st := by
  subst hp; exact g.adv fun T locs X _ t r => XT.dup2 X.here C.ex rfl (C.dec hd) hs hc hc' r
theorem g_dup2L (C : Cx w l Z own bytes mx rt nm rm n0) {x : Int64} (hd : decode bytes pc = .ok (.dup2, 1)) (hs : st = .long x :: rest) (hp : pc + 1 = pc') (g : G w Q h k n pc' Ls (.long x :: .long x :: rest)) : G w Q h k n pc Ls st := by
  subst hp; exact g.adv fun T locs X _ t r => XT.dup2L X.here C.ex rfl (C.dec hd) hs r
theorem g_pop2L (C : Cx w l Z own bytes mx rt nm rm n0) {x : Int64} (hd : decode bytes pc = .ok (.pop2, 1)) (hs : st = .long x :: rest) (hp : pc + 1 = pc') (g : G w Q h k n pc' Ls rest) : G w Q h k n pc Ls st := by
  subst hp hs; exact g.adv fun T locs X _ t r => by
    have hx := C.ex
    have hd' := C.dec hd
    show Steps w.p.tables w.e w.below (T.setTop { method := w.m, pc := pc, locals := Ls, stack := _ :: rest, locked := none }) _
    jvm_step X.here [X.here.top, hx, hd', Value.category]
    exact r
theorem g_dup2_x2L (C : Cx w l Z own bytes mx rt nm rm n0) {x : Int64} {y : Int32} {z : Addr} (hd : decode bytes pc = .ok (.dup2_x2, 1)) (hs : st = .long x :: .int y :: .ref z :: rest) (hp : pc + 1 = pc') (g : G w Q h k n pc' Ls (.long x :: .int y :: .ref z :: .long x :: rest)) : G w Q h k n pc Ls st := by
  subst hp hs; exact g.adv fun T locs X _ t r => by
    have hx := C.ex
    have hd' := C.dec hd
    show Steps w.p.tables w.e w.below (T.setTop { method := w.m, pc := pc, locals := Ls, stack := _ :: _ :: _ :: rest, locked := none }) _
    jvm_step X.here [X.here.top, hx, hd', Value.category]
    exact r
theorem g_goto (C : Cx w l Z own bytes mx rt nm rm n0) {o : Int} (hd : decode bytes pc = .ok (.goto o, 3)) (ho : 0 ≤ (pc : Int) + o) (hp : ((pc : Int) + o).toNat = pc') (g : G w Q h k n pc' Ls st) : G w Q h k n pc Ls st :=
  g.adv fun T locs X _ t r => XS.goto X.here C.ex rfl (pc0 := pc) rfl (C.dec hd) ho hp r
theorem g_ifY (C : Cx w l Z own bytes mx rt nm rm n0) {cd : ClassFile.Cond} {o : Int} {x : Int32} (hd : decode bytes pc = .ok (.ifCond cd o, 3)) (hs : st = .int x :: rest) (hc : if_icmp.holds cd x 0 = true) (ho : 0 ≤ (pc : Int) + o) (hp : ((pc : Int) + o).toNat = pc') (g : G w Q h k n pc' Ls rest) : G w Q h k n pc Ls st :=
  g.adv fun T locs X _ t r => XS.ifYes X.here C.ex rfl (pc0 := pc) rfl (C.dec hd) hs ((if0 _ _).trans hc) ho hp r
theorem g_ifN (C : Cx w l Z own bytes mx rt nm rm n0) {cd : ClassFile.Cond} {o : Int} {x : Int32} (hd : decode bytes pc = .ok (.ifCond cd o, 3)) (hs : st = .int x :: rest) (hc : if_icmp.holds cd x 0 = false) (hp : pc + 3 = pc') (g : G w Q h k n pc' Ls rest) : G w Q h k n pc Ls st := by
  subst hp; exact g.adv fun T locs X _ t r => XS.ifNo X.here C.ex rfl (C.dec hd) hs ((if0 _ _).trans hc) r
theorem g_icY (C : Cx w l Z own bytes mx rt nm rm n0) {cd : ClassFile.Cond} {o : Int} {x y : Int32} (hd : decode bytes pc = .ok (.if_icmp cd o, 3)) (hs : st = .int y :: .int x :: rest) (hc : if_icmp.holds cd x y = true) (ho : 0 ≤ (pc : Int) + o) (hp : ((pc : Int) + o).toNat = pc') (g : G w Q h k n pc' Ls rest) : G w Q h k n pc Ls st :=
  g.adv fun T locs X _ t r => XS.icmpYes X.here C.ex rfl (pc0 := pc) rfl (C.dec hd) hs hc ho hp r
theorem g_icN (C : Cx w l Z own bytes mx rt nm rm n0) {cd : ClassFile.Cond} {o : Int} {x y : Int32} (hd : decode bytes pc = .ok (.if_icmp cd o, 3)) (hs : st = .int y :: .int x :: rest) (hc : if_icmp.holds cd x y = false) (hp : pc + 3 = pc') (g : G w Q h k n pc' Ls rest) : G w Q h k n pc Ls st := by
  subst hp; exact g.adv fun T locs X _ t r => XS.icmpNo X.here C.ex rfl (C.dec hd) hs hc r
/-- what a branch says, in plain words -/
def says (cd : ClassFile.Cond) (x y : Int32) : Prop := match cd with | .lt => x < y | .ge => ¬ x < y | .gt => y < x | .le => ¬ y < x | .eq => x = y | .ne => ¬ x = y
theorem says_t {cd : ClassFile.Cond} {x y : Int32} (q : says cd x y) : if_icmp.holds cd x y = true := by
  cases cd
  · exact (teq q).1
  · exact (feq q).2
  · exact (tlt q).1
  · exact (flt q).2.1
  · exact (tlt q).2.2.1
  · exact (flt q).2.2.2
theorem says_f {cd : ClassFile.Cond} {x y : Int32} (q : ¬ says cd x y) : if_icmp.holds cd x y = false := by
  cases cd
  · exact (feq q).1
  · exact (teq (Decidable.not_not.mp q)).2
  · exact (flt q).1
  · exact (tlt (Decidable.not_not.mp q)).2.1
  · exact (flt q).2.2.1
  · exact (tlt (Decidable.not_not.mp q)).2.2.2
theorem g_icB (C : Cx w l Z own bytes mx rt nm rm n0) {cd : ClassFile.Cond} {o : Int} {x y : Int32} {pcT : Nat} (hd : decode bytes pc = .ok (.if_icmp cd o, 3)) (hs : st = .int y :: .int x :: rest) (ho : 0 ≤ (pc : Int) + o) (hT : ((pc : Int) + o).toNat = pcT) (hp : pc + 3 = pc') (gy : says cd x y → G w Q h k n pcT Ls rest) (gn : ¬ says cd x y → G w Q h k n pc' Ls rest) : G w Q h k n pc Ls st := by
  by_cases q : says cd x y
  · exact g_icY C hd hs (says_t q) ho hT (gy q)
  · exact g_icN C hd hs (says_f q) hp (gn q)
theorem g_ifB (C : Cx w l Z own bytes mx rt nm rm n0) {cd : ClassFile.Cond} {o : Int} {x : Int32} {pcT : Nat} (hd : decode bytes pc = .ok (.ifCond cd o, 3)) (hs : st = .int x :: rest) (ho : 0 ≤ (pc : Int) + o) (hT : ((pc : Int) + o).toNat = pcT) (hp : pc + 3 = pc') (gy : says cd x 0 → G w Q h k n pcT Ls rest) (gn : ¬ says cd x 0 → G w Q h k n pc' Ls rest) : G w Q h k n pc Ls st := by
  by_cases q : says cd x 0
  · exact g_ifY C hd hs (says_t q) ho hT (gy q)
  · exact g_ifN C hd hs (says_f q) hp (gn q)
theorem g_ifnullY (C : Cx w l Z own bytes mx rt nm rm n0) {o : Int} (hd : decode bytes pc = .ok (.ifnull o, 3)) (hs : st = .null :: rest) (ho : 0 ≤ (pc : Int) + o) (hp : ((pc : Int) + o).toNat = pc') (g : G w Q h k n pc' Ls rest) : G w Q h k n pc Ls st :=
  g.adv fun T locs X _ t r => XS.ifnullYes X.here C.ex rfl (pc0 := pc) rfl (C.dec hd) hs ho hp r
theorem g_ifnullN (C : Cx w l Z own bytes mx rt nm rm n0) {o : Int} {b : Addr} (hd : decode bytes pc = .ok (.ifnull o, 3)) (hs : st = .ref b :: rest) (hp : pc + 3 = pc') (g : G w Q h k n pc' Ls rest) : G w Q h k n pc Ls st := by
  subst hp; exact g.adv fun T locs X _ t r => XS.ifnullNo X.here C.ex rfl (C.dec hd) hs r
theorem g_ifnonnullY (C : Cx w l Z own bytes mx rt nm rm n0) {o : Int} {b : Addr} (hd : decode bytes pc = .ok (.ifnonnull o, 3)) (hs : st = .ref b :: rest) (ho : 0 ≤ (pc : Int) + o) (hp : ((pc : Int) + o).toNat = pc') (g : G w Q h k n pc' Ls rest) : G w Q h k n pc Ls st :=
  g.adv fun T locs X _ t r => XS.ifnonnullYes X.here C.ex rfl (pc0 := pc) rfl (C.dec hd) hs ho hp r
theorem g_ifnonnullN (C : Cx w l Z own bytes mx rt nm rm n0) {o : Int} (hd : decode bytes pc = .ok (.ifnonnull o, 3)) (hs : st = .null :: rest) (hp : pc + 3 = pc') (g : G w Q h k n pc' Ls rest) : G w Q h k n pc Ls st := by
  subst hp; exact g.adv fun T locs X _ t r => XS.ifnonnullNo X.here C.ex rfl (C.dec hd) hs r
theorem g_acmp (C : Cx w l Z own bytes mx rt nm rm n0) {cd : ACond} {o : Int} {x y : Value} {same : Bool} (hd : decode bytes pc = .ok (.if_acmp cd o, 3)) (hs : st = y :: x :: rest) (h1 : x.isRef = true) (h2 : y.isRef = true) (hq : decide (x = y) = same) (ho : 0 ≤ (pc : Int) + o) (hp : pc' = if acV cd same = true then ((pc : Int) + o).toNat else pc + 3) (g : G w Q h k n pc' Ls rest) : G w Q h k n pc Ls st :=
  g.adv fun T locs X _ t r => Jvm.RoadKit.acmp (g := mkF w.m pc Ls st) X C.ex rfl h1 h2 (pc0 := pc) rfl (C.dec hd) hs hq ho hp r
theorem g_tsw (C : Cx w l Z own bytes mx rt nm rm n0) {df lo hi : Int} {offs : Array Int} {len : Nat} {o : Int} {i : Int32} (hd : decode bytes pc = .ok (.tableswitch df lo hi offs, len)) (hs : st = .int i :: rest) (hin : ¬ (i.toInt < lo ∨ i.toInt > hi)) (hoff : offs[(i.toInt - lo).toNat]? = some o) (ho : 0 ≤ (pc : Int) + o) (hp : ((pc : Int) + o).toNat = pc') (g : G w Q h k n pc' Ls rest) : G w Q h k n pc Ls st :=
  g.adv fun T locs X _ t r => XS.tswIn X.here C.ex rfl (pc0 := pc) rfl (C.dec hd) hs hin hoff ho hp r
theorem g_tswOut (C : Cx w l Z own bytes mx rt nm rm n0) {df lo hi : Int} {offs : Array Int} {len : Nat} {i : Int32} (hd : decode bytes pc = .ok (.tableswitch df lo hi offs, len)) (hs : st = .int i :: rest) (hin : i.toInt < lo ∨ i.toInt > hi) (ho : 0 ≤ (pc : Int) + df) (hp : ((pc : Int) + df).toNat = pc') (g : G w Q h k n pc' Ls rest) : G w Q h k n pc Ls st :=
  g.adv fun T locs X _ t r => XS.tswOut X.here C.ex rfl (pc0 := pc) rfl (C.dec hd) hs hin ho hp r
/-! the heap and the tables -/
theorem g_getF (C : Cx w l Z own bytes mx rt nm rm n0) {R0 O f d : String} {i : Nat} {a : Addr} {v : Value} (hw : (Jvm.Cond.fieldLink own i R0 f d).before a0 Z = true) (via : Via Z R0 O f d) (hd : decode bytes pc = .ok (.getfield i, 3)) (hs : st = .ref a :: rest) (F : Fld Z h a O f d v) (hp : pc + 3 = pc') (g : G w Q h k n pc' Ls (v :: rest)) : G w Q h k n pc Ls st := by
  subst hp; intro T locs X eT N
  obtain ⟨T', X', e', s'⟩ := getF X C.ex C.hZ C.ow (host := "") (Or.inl hw) via eT F (g := mkF w.m pc Ls st) rfl hs (C.dec hd)
  exact G.to X' e' N s' g
theorem g_getFN (C : Cx w l Z own bytes mx rt nm rm n0) {R0 O f d host : String} {i : Nat} {a : Addr} {v : Value} (hw : (Jvm.Cond.fieldLinkNest own i R0 f d host).before a0 Z = true) (via : Via Z R0 O f d) (hd : decode bytes pc = .ok (.getfield i, 3)) (hs : st = .ref a :: rest) (F : Fld Z h a O f d v) (hp : pc + 3 = pc') (g : G w Q h k n pc' Ls (v :: rest)) : G w Q h k n pc Ls st := by
  subst hp; intro T locs X eT N
  obtain ⟨T', X', e', s'⟩ := getF X C.ex C.hZ C.ow (Or.inr hw) via eT F (g := mkF w.m pc Ls st) rfl hs (C.dec hd)
  exact G.to X' e' N s' g
theorem g_getS (C : Cx w l Z own bytes mx rt nm rm n0) {R0 O f d : String} {i : Nat} {v : Value} (hw : (Jvm.Cond.fieldLink own i R0 f d).before a0 Z = true) (via : Via Z R0 O f d) (hd : decode bytes pc = .ok (.getstatic i, 3)) (F : Sta Z h O f d v) (hp : pc + 3 = pc') (g : G w Q h k n pc' Ls (v :: st)) : G w Q h k n pc Ls st := by
  subst hp; intro T locs X eT N
  obtain ⟨T', X', e', s'⟩ := getS2 X C.ex C.hZ C.ow (host := "") (Or.inl hw) via eT F (g := mkF w.m pc Ls st) rfl (C.dec hd)
  exact G.to X' e' N s' g
theorem g_getSN (C : Cx w l Z own bytes mx rt nm rm n0) {R0 O f d host : String} {i : Nat} {v : Value} (hw : (Jvm.Cond.fieldLinkNest own i R0 f d host).before a0 Z = true) (via : Via Z R0 O f d) (hd : decode bytes pc = .ok (.getstatic i, 3)) (F : Sta Z h O f d v) (hp : pc + 3 = pc') (g : G w Q h k n pc' Ls (v :: st)) : G w Q h k n pc Ls st := by
  subst hp; intro T locs X eT N
  obtain ⟨T', X', e', s'⟩ := getS2 X C.ex C.hZ C.ow (Or.inr hw) via eT F (g := mkF w.m pc Ls st) rfl (C.dec hd)
  exact G.to X' e' N s' g
theorem fr_snoc {L : List Loc} {a : Addr} {sl k : Nat} (N : Fr k L) (q : k ≤ a) : Fr k (L ++ [⟨a, sl⟩]) := N.app fun y hy => by cases List.mem_singleton.mp hy; exact q
theorem g_putF (C : Cx w l Z own bytes mx rt nm rm n0) {R0 O f d K : String} {i kk : Nat} {ty : FieldType} {a : Addr} {v old : Value} (hw : (Jvm.Cond.fieldLink own i R0 f d).before a0 Z = true) (via : Via Z R0 O f d) (hd : decode bytes pc = .ok (.putfield i, 3)) (hs : st = v :: .ref a :: rest) (F : Fld Z h a O f d old) (E : Exa Z h a K) (La : (Jvm.Cond.lays K O f d).before a0 Z = true ∨ ((Jvm.Cond.laysFinal K O f d).before a0 Z = true ∧ own = O ∧ nm = "<init>")) (wi : (Jvm.Cond.instantiable K kk).before a0 Z = true) (hty : parseFieldDescriptor d = some ty) (hn : narrow ty v = v) (hf : fits ty v = true) (ge : n0 ≤ a) (hp : pc + 3 = pc')
    (g : ∀ h', Wr h h' a (Jvm.RoadKit.slotOf Z O f d) v → G w Q h' k n pc' Ls rest) : G w Q h k n pc Ls st := by
  subst hp; intro T locs X eT N
  obtain ⟨T', h', X', e', W, s'⟩ := putF X C.ex C.hZ C.ow (host := "") (Or.inl hw) via eT F E (La.imp id fun q => ⟨q.1, q.2.1, C.mn.trans q.2.2⟩) wi hty hn hf (g := mkF w.m pc Ls st) rfl hs (C.dec hd)
  exact G.to X' e' (fr_snoc N (C.nn ▸ ge)) s' (g h' W)
theorem g_putFN (C : Cx w l Z own bytes mx rt nm rm n0) {R0 O f d K : String} {i kk : Nat} {ty : FieldType} {a : Addr} {v v' old : Value} (hw : (Jvm.Cond.fieldLink own i R0 f d).before a0 Z = true) (via : Via Z R0 O f d) (hd : decode bytes pc = .ok (.putfield i, 3)) (hs : st = v :: .ref a :: rest) (F : Fld Z h a O f d old) (E : Exa Z h a K) (La : (Jvm.Cond.lays K O f d).before a0 Z = true ∨ ((Jvm.Cond.laysFinal K O f d).before a0 Z = true ∧ own = O ∧ nm = "<init>")) (wi : (Jvm.Cond.instantiable K kk).before a0 Z = true) (hty : parseFieldDescriptor d = some ty) (hn : narrow ty v = v') (hf : fits ty v' = true) (ge : n0 ≤ a) (hp : pc + 3 = pc')
    (g : ∀ h', Wr h h' a (Jvm.RoadKit.slotOf Z O f d) v' → G w Q h' k n pc' Ls rest) : G w Q h k n pc Ls st := by
  subst hp; intro T locs X eT N
  obtain ⟨T', h', X', e', W, s'⟩ := putFN X C.ex C.hZ C.ow hw via eT F E (La.imp id fun q => ⟨q.1, q.2.1, C.mn.trans q.2.2⟩) wi hty hn hf (g := mkF w.m pc Ls st) rfl hs (C.dec hd)
  exact G.to X' e' (fr_snoc N (C.nn ▸ ge)) s' (g h' W)
theorem g_new (C : Cx w l Z own bytes mx rt nm rm n0) {K : String} {i ns : Nat} (hw : (Jvm.Cond.classLink own i K).before a0 Z = true) (wi : (Jvm.Cond.instantiable K ns).before a0 Z = true) (wz : (Jvm.Cond.initialized K).before a0 Z = true) (hd : decode bytes pc = .ok (.new i, 3)) (hc : k' ≤ rm.cells) (hl : n' ≤ rm.slots) (ek : k + 1 = k') (en : n + ns = n') (hp : pc + 3 = pc')
    (g : ∀ h' a, a = h.size → Ext h h' → Exa Z h' a K → (∀ {O f d : String} {ty : FieldType}, Laid Z a0 K O f d → parseFieldDescriptor d = some ty → Fld Z h' a O f d (defaultValue ty)) → G w Q h' k' n' pc' Ls (.ref a :: st)) : G w Q h k n pc Ls st := by
  subst hp ek en; intro T locs X eT N
  obtain ⟨T', h', X', e', E, A, D, -, s'⟩ := newO X C.ex C.hZ C.ow hw wi wz eT (g := mkF w.m pc Ls st) rfl (C.dec hd) (by rw [C.ro]; exact hc) (by rw [C.ro]; exact hl)
  exact G.to X' e' N s' (g h' _ rfl E A D)
theorem g_initO (C : Cx w l Z own bytes mx rt nm rm n0) {i : Nat} {a : Addr} (hw : (Jvm.Cond.methodLink own i Lib.objectInit).before a0 Z = true) (w2 : (Jvm.Cond.instanceMethod Lib.objectInit).before a0 Z = true) (w3 : (Jvm.Cond.code Lib.objectInit ⟨#[0xb1]⟩ 1 none).before a0 Z = true) (hd : decode bytes pc = .ok (.invokespecial i, 3)) (hs : st = .ref a :: rest) (hz : Ls.size = mx) (hf : 1 ≤ rm.frames) (hl : (rest.map fun v => v.category).sum + 12 ≤ rm.locals) (hp : pc + 3 = pc') (g : G w Q h k n pc' Ls rest) : G w Q h k n pc Ls st := by
  subst hp; intro T locs X eT N
  obtain ⟨T', X', e', s'⟩ := initO X C.ex C.hZ C.ow hw w2 w3 eT (g := mkF w.m pc Ls st) rfl (hz.trans C.ml.symm) hs (C.dec hd) (by rw [C.ro]; exact hf) (W := (rest.map fun v => v.category).sum) (by show 2 * 0 + _ ≤ _; omega) (by rw [C.ro]; exact hl)
  exact G.to X' e' N s' g
theorem g_cast (C : Cx w l Z own bytes mx rt nm rm n0) {K : String} {i : Nat} {a : Addr} (hw : (Jvm.Cond.classLink own i K).before a0 Z = true) (hd : decode bytes pc = .ok (.checkcast i, 3)) (hs : st = .ref a :: rest) (F : Ins Z h a K true) (hp : pc + 3 = pc') (g : G w Q h k n pc' Ls st) : G w Q h k n pc Ls st := by
  subst hp; intro T locs X eT N
  obtain ⟨T', X', e', s'⟩ := castY X C.ex C.hZ C.ow hw eT F (g := mkF w.m pc Ls st) rfl hs (C.dec hd)
  exact G.to X' e' N s' g
theorem g_instY (C : Cx w l Z own bytes mx rt nm rm n0) {K : String} {i : Nat} {a : Addr} (hw : (Jvm.Cond.classLink own i K).before a0 Z = true) (hd : decode bytes pc = .ok (.instanceof i, 3)) (hs : st = .ref a :: rest) (F : Ins Z h a K true) (hp : pc + 3 = pc') (g : G w Q h k n pc' Ls (.int 1 :: rest)) : G w Q h k n pc Ls st := by
  subst hp; intro T locs X eT N
  obtain ⟨T', X', e', s'⟩ := instY X C.ex C.hZ C.ow hw eT F (g := mkF w.m pc Ls st) rfl hs (C.dec hd)
  exact G.to X' e' N s' g
theorem g_instN (C : Cx w l Z own bytes mx rt nm rm n0) {K B : String} {i : Nat} {a : Addr} (hw : (Jvm.Cond.classLink own i K).before a0 Z = true) (hd : decode bytes pc = .ok (.instanceof i, 3)) (hs : st = .ref a :: rest) (E : Exa Z h a B) (F : ∃ c t, Z.vm.findClass B = some c ∧ Z.vm.findClass K = some t ∧ Z.vm.assignable c t = false) (hp : pc + 3 = pc') (g : G w Q h k n pc' Ls (.int 0 :: rest)) : G w Q h k n pc Ls st := by
  subst hp; intro T locs X eT N
  obtain ⟨T', X', e', s'⟩ := instNo X C.ex C.hZ C.ow hw eT E F (g := mkF w.m pc Ls st) rfl hs (C.dec hd)
  exact G.to X' e' N s' g
theorem g_newP (C : Cx w l Z own bytes mx rt nm rm n0) {aty : ArrayType} {z : Int32} {cap : Nat} (hw : (Jvm.Cond.arrayClass (newarray.typeOf aty)).before a0 Z = true) (hd : decode bytes pc = .ok (.newarray aty, 2)) (hs : st = .int z :: rest) (hn : ¬ z < 0) (hcap : z.toNatClampNeg ≤ cap) (hb' : cap * 8 ≤ 536870912) (hc : k' ≤ rm.cells) (hl : n' ≤ rm.slots) (ek : k + 1 = k') (en : n + cap = n') (hp : pc + 2 = pc')
    (g : ∀ h' a kA, a = h.size → Ext h h' → Arv Z h' a kA (newarray.typeOf aty) z [] (defaultValue (newarray.typeOf aty)) → G w Q h' k' n' pc' Ls (.ref a :: rest)) : G w Q h k n pc Ls st := by
  subst hp ek en; intro T locs X eT N
  obtain ⟨T', h', kA, X', e', E, A, s'⟩ := newP X C.ex C.hZ hw eT (g := mkF w.m pc Ls st) rfl (C.dec hd) hs hn hcap hb' (by rw [C.ro]; exact hc) (by rw [C.ro]; exact hl)
  exact G.to X' e' N s' (g h' _ kA rfl E (Arv.new A hn))
theorem g_newR (C : Cx w l Z own bytes mx rt nm rm n0) {K : String} {i : Nat} {z : Int32} {cap : Nat} (hw : (Jvm.Cond.classLink own i K).before a0 Z = true) (w2 : (Jvm.Cond.arrayOver (.object K)).before a0 Z = true) (hd : decode bytes pc = .ok (.anewarray i, 3)) (hs : st = .int z :: rest) (hn : ¬ z < 0) (hcap : z.toNatClampNeg ≤ cap) (hb' : cap * 8 ≤ 536870912) (hc : k' ≤ rm.cells) (hl : n' ≤ rm.slots) (ek : k + 1 = k') (en : n + cap = n') (hp : pc + 3 = pc')
    (g : ∀ h' a kA, a = h.size → Ext h h' → Arv Z h' a kA (.object K) z [] .null → Ovr Z kA K → G w Q h' k' n' pc' Ls (.ref a :: rest)) : G w Q h k n pc Ls st := by
  subst hp ek en; intro T locs X eT N
  obtain ⟨T', h', kA, X', e', E, A, O, s'⟩ := newR X C.ex C.hZ C.ow hw w2 eT (g := mkF w.m pc Ls st) rfl (C.dec hd) hs hn hcap hb' (by rw [C.ro]; exact hc) (by rw [C.ro]; exact hl)
  exact G.to X' e' N s' (g h' _ kA rfl E (Arv.new A hn) O)
theorem g_newPE (C : Cx w l Z own bytes mx rt nm rm n0) {aty : ArrayType} {z : Int32} {cap : Nat} {ad : String} (hw : (Jvm.Cond.arrayClass (newarray.typeOf aty)).before a0 Z = true) (had : "[" ++ (newarray.typeOf aty).toString = ad) (hd : decode bytes pc = .ok (.newarray aty, 2)) (hs : st = .int z :: rest) (hn : ¬ z < 0) (hcap : z.toNatClampNeg ≤ cap) (hb' : cap * 8 ≤ 536870912) (hc : k' ≤ rm.cells) (hl : n' ≤ rm.slots) (ek : k + 1 = k') (en : n + cap = n') (hp : pc + 2 = pc')
    (g : ∀ h' a kA, a = h.size → Ext h h' → Arv Z h' a kA (newarray.typeOf aty) z [] (defaultValue (newarray.typeOf aty)) → Exa Z h' a ad → G w Q h' k' n' pc' Ls (.ref a :: rest)) : G w Q h k n pc Ls st := by
  subst hp ek en; intro T locs X eT N
  obtain ⟨T', h', kA, X', e', E, A, B, s'⟩ := newPE X C.ex C.hZ hw eT (g := mkF w.m pc Ls st) rfl (C.dec hd) hs hn hcap hb' (by rw [C.ro]; exact hc) (by rw [C.ro]; exact hl) had
  exact G.to X' e' N s' (g h' _ kA rfl E (Arv.new A hn) B)
theorem g_newRA (C : Cx w l Z own bytes mx rt nm rm n0) {K ad : String} {i : Nat} {ty : FieldType} {z : Int32} {cap : Nat} (hC : (FieldType.array ty).toString = K) (had : "[" ++ K = ad) (hw : (Jvm.Cond.classLink own i K).before a0 Z = true) (w2 : (Jvm.Cond.arrayOver (.array ty)).before a0 Z = true) (hd : decode bytes pc = .ok (.anewarray i, 3)) (hs : st = .int z :: rest) (hn : ¬ z < 0) (hcap : z.toNatClampNeg ≤ cap) (hb' : cap * 8 ≤ 536870912) (hc : k' ≤ rm.cells) (hl : n' ≤ rm.slots) (ek : k + 1 = k') (en : n + cap = n') (hp : pc + 3 = pc')
    (g : ∀ h' a kA, a = h.size → Ext h h' → Arv Z h' a kA (.array ty) z [] .null → Exa Z h' a ad → OvrA Z kA ty K → G w Q h' k' n' pc' Ls (.ref a :: rest)) : G w Q h k n pc Ls st := by
  subst hp ek en; intro T locs X eT N
  obtain ⟨T', h', kA, X', e', E, A, B, O, s'⟩ := newRA X C.ex C.hZ C.ow hC hw w2 eT (g := mkF w.m pc Ls st) rfl (C.dec hd) hs hn hcap hb' (by rw [C.ro]; exact hc) (by rw [C.ro]; exact hl) had
  exact G.to X' e' N s' (g h' _ kA rfl E (Arv.new A hn) B O)
theorem stoA {h : Heap} {a y : Addr} {kA : ClassId} {t0 ty : FieldType} {K : String} {z : Int32} {vs : List Value} {dv : Value} (A : Arv Z h a kA t0 z vs dv) (O : OvrA Z kA ty K) (E : Exa Z h y K) : Sto Z h a (.ref y) := by
  obtain ⟨c, Ar, q, -⟩ := A; exact Sto.ofVA Ar q O (Ins.self E)
theorem stoR {h : Heap} {a y : Addr} {kA : ClassId} {t0 : FieldType} {K : String} {z : Int32} {vs : List Value} {dv : Value} (A : Arv Z h a kA t0 z vs dv) (O : Ovr Z kA K) (I : Ins Z h y K true) : Sto Z h a (.ref y) := by
  obtain ⟨c, Ar, q, -⟩ := A; exact Sto.ofV Ar q O I
theorem g_cpA (C : Cx w l Z own bytes mx rt nm rm n0) {i : Nat} {a b : Addr} {k1 k2 : ClassId} {ty ty' : FieldType} {z z' sp dp nn : Int32} {vs vd us : List Value} {dv dd : Value}
    (w1 : (Jvm.Cond.methodLink own i Jvm.Stand.acN).before a0 Z = true) (w2 : (Jvm.Cond.native Jvm.Stand.acN).before a0 Z = true) (w3 : (Jvm.Cond.static Jvm.Stand.acN).before a0 Z = true) (w4 : (Jvm.Cond.initialized "java/lang/System").before a0 Z = true)
    (hd : decode bytes pc = .ok (.invokestatic i, 3)) (hs : st = .int nn :: .int dp :: .ref b :: .int sp :: .ref a :: rest) (hz : Ls.size = mx) (A : Arv Z h a k1 ty z vs dv) (B : Arv Z h b k2 ty' z' vd dd) (hty : (ty = ty' ∧ refKind ty = false) ∨ (refKind ty = true ∧ refKind ty' = true ∧ StoL Z h b us))
    (h1 : ¬ sp < 0) (h2 : ¬ dp < 0) (h3 : ¬ nn < 0) (h4 : sp.toNatClampNeg + nn.toNatClampNeg ≤ z.toNatClampNeg) (h5 : dp.toNatClampNeg + nn.toNatClampNeg ≤ z'.toNatClampNeg) (hus : us = (List.range nn.toNatClampNeg).map fun i => vs.getD (sp.toNatClampNeg + i) dv) (hlen : dp.toNatClampNeg + nn.toNatClampNeg ≤ vd.length) (ge : n0 ≤ b)
    (hf : 1 ≤ rm.frames) (hlo : (rest.map fun v => v.category).sum + (nativeFrameWords "java/lang/System" "arraycopy" 5 + 11) ≤ rm.locals) (hp : pc + 3 = pc')
    (g : ∀ h', Keep h h' [b] → Arv Z h' b k2 ty' z' (vd.take dp.toNatClampNeg ++ us ++ vd.drop (dp.toNatClampNeg + nn.toNatClampNeg)) dd → G w Q h' k n pc' Ls rest) : G w Q h k n pc Ls st := by
  subst hp; intro T locs X eT N
  obtain ⟨T', h', L, X', e', N', K, A', s'⟩ := cpA X C.ex C.hZ C.ow w1 w2 w3 w4 eT A B hty h1 h2 h3 h4 h5 hus hlen (n0 := w.n0) N (C.nn ▸ ge) (g := mkF w.m pc Ls st) rfl (hz.trans C.ml.symm) hs (C.dec hd) (by rw [C.ro]; exact hf) (W := (rest.map fun v => v.category).sum) (by show 2 * 0 + _ ≤ _; omega) (by rw [C.ro]; exact hlo)
  exact G.to X' e' N' s' (g h' K A')
/-! arrays by their values: an array fact (Arv) with a list of all its values -/
theorem arv_inb {a : Addr} {kA : ClassId} {ty : FieldType} {z j : Int32} {vs : List Value} {dv : Value} (A : Arv Z h a kA ty z vs dv) (q1 : ¬ j < 0) (q2 : j < z) : ∃ cl, Arr Z h a cl ty ∧ ¬ (j < 0 ∨ cl.slots.size ≤ j.toNatClampNeg) ∧ cl.slots[j.toNatClampNeg]? = some (vs.getD j.toNatClampNeg dv) := by
  obtain ⟨cl, Ar, -, S, -, H, -⟩ := A
  have hi := inb_of S ⟨q1, q2⟩
  exact ⟨cl, Ar, hi, H.at hi rfl⟩
theorem arv_put {h' : Heap} {a : Addr} {kA : ClassId} {ty : FieldType} {z j : Int32} {vs : List Value} {dv v : Value} (A : Arv Z h a kA ty z vs dv) (hv : fits ty v = true) (W : Wr h h' a j.toNatClampNeg v) {i : Nat} (hj : j.toNatClampNeg = i) (hi : i < vs.length) : Arv Z h' a kA ty z (vs.set i v) dv := by
  obtain ⟨cl, Ar, q1, S, q3, H, F⟩ := A
  exact Arv.set Ar q1 S q3 H F hv W i hj hi

theorem g_iaload (C : Cx w l Z own bytes mx rt nm rm n0) {a : Addr} {kA : ClassId} {z j : Int32} {vs : List Value} {dv : Value} {x : Int32} (hd : decode bytes pc = .ok (.iaload, 1)) (hs : st = .int j :: .ref a :: rest) (A : Arv Z h a kA .int z vs dv) (q1 : ¬ j < 0) (q2 : j < z) (hv : vs.getD j.toNatClampNeg dv = .int x) (hp : pc + 1 = pc') (g : G w Q h k n pc' Ls (.int x :: rest)) : G w Q h k n pc Ls st := by
  subst hp; intro T locs X eT N
  obtain ⟨cl, Ar, hi, hg⟩ := arv_inb A q1 q2
  rw [hv] at hg
  exact G.to X eT N (fun t r => X.iaload C.ex (j := j) (v := .int x) (by rw [eT]; exact Ar.1) (State.isArrayOf_alike C.hZ.alike Ar.2.1) Ar.2.2 hi hg (g := mkF w.m pc Ls st) rfl hs (C.dec hd) _ r) g
theorem g_laload (C : Cx w l Z own bytes mx rt nm rm n0) {a : Addr} {kA : ClassId} {z j : Int32} {vs : List Value} {dv : Value} {x : Int64} (hd : decode bytes pc = .ok (.laload, 1)) (hs : st = .int j :: .ref a :: rest) (A : Arv Z h a kA .long z vs dv) (q1 : ¬ j < 0) (q2 : j < z) (hv : vs.getD j.toNatClampNeg dv = .long x) (hp : pc + 1 = pc') (g : G w Q h k n pc' Ls (.long x :: rest)) : G w Q h k n pc Ls st := by
  subst hp; intro T locs X eT N
  obtain ⟨cl, Ar, hi, hg⟩ := arv_inb A q1 q2
  rw [hv] at hg
  exact G.to X eT N (fun t r => X.laload C.ex (j := j) (v := .long x) (by rw [eT]; exact Ar.1) (State.isArrayOf_alike C.hZ.alike Ar.2.1) Ar.2.2 hi hg (g := mkF w.m pc Ls st) rfl hs (C.dec hd) _ r) g
theorem g_baload (C : Cx w l Z own bytes mx rt nm rm n0) {a : Addr} {kA : ClassId} {z j : Int32} {vs : List Value} {dv : Value} {x : Int32} (hd : decode bytes pc = .ok (.baload, 1)) (hs : st = .int j :: .ref a :: rest) (A : Arv Z h a kA .byte z vs dv) (q1 : ¬ j < 0) (q2 : j < z) (hv : vs.getD j.toNatClampNeg dv = .int x) (hp : pc + 1 = pc') (g : G w Q h k n pc' Ls (.int x :: rest)) : G w Q h k n pc Ls st := by
  subst hp; intro T locs X eT N
  obtain ⟨cl, Ar, hi, hg⟩ := arv_inb A q1 q2
  rw [hv] at hg
  exact G.to X eT N (fun t r => X.baloadBytes C.ex (j := j) (v := .int x) (by rw [eT]; exact Ar.1) (State.isArrayOf_alike C.hZ.alike Ar.2.1) Ar.2.2 hi hg (g := mkF w.m pc Ls st) rfl hs (C.dec hd) _ r) g
theorem g_aaload (C : Cx w l Z own bytes mx rt nm rm n0) {a : Addr} {kA : ClassId} {ty : FieldType} {z j : Int32} {vs : List Value} {dv x : Value} (hd : decode bytes pc = .ok (.aaload, 1)) (hs : st = .int j :: .ref a :: rest) (A : Arv Z h a kA ty z vs dv) (hty : ty.isReference = true) (q1 : ¬ j < 0) (q2 : j < z) (hv : vs.getD j.toNatClampNeg dv = x) (hp : pc + 1 = pc') (g : G w Q h k n pc' Ls (x :: rest)) : G w Q h k n pc Ls st := by
  subst hp; intro T locs X eT N
  obtain ⟨cl, Ar, hi, hg⟩ := arv_inb A q1 q2
  rw [hv] at hg
  exact G.to X eT N (fun t r => X.aaload C.ex (j := j) (v := x) (by rw [eT]; exact Ar.1) (State.isArrayOf_alike C.hZ.alike Ar.2.1) hty Ar.2.2 hi hg (g := mkF w.m pc Ls st) rfl hs (C.dec hd) _ r) g
theorem g_alen (C : Cx w l Z own bytes mx rt nm rm n0) {a : Addr} {kA : ClassId} {ty : FieldType} {z : Int32} {vs : List Value} {dv : Value} (hd : decode bytes pc = .ok (.arraylength, 1)) (hs : st = .ref a :: rest) (A : Arv Z h a kA ty z vs dv) (hp : pc + 1 = pc') (g : G w Q h k n pc' Ls (.int z :: rest)) : G w Q h k n pc Ls st := by
  subst hp; intro T locs X eT N
  obtain ⟨cl, Ar, -, S, q3, -, -⟩ := A
  exact G.to X eT N (fun t r => X.arraylength C.ex (by rw [eT]; exact Ar.1) (State.isArrayOf_alike C.hZ.alike Ar.2.1) (g := mkF w.m pc Ls st) rfl hs (C.dec hd) _ (by rw [len_of S q3]; exact r)) g

theorem g_iastore (C : Cx w l Z own bytes mx rt nm rm n0) {a : Addr} {kA : ClassId} {z j : Int32} {vs : List Value} {dv : Value} {x : Int32} (hd : decode bytes pc = .ok (.iastore, 1)) (hs : st = .int x :: .int j :: .ref a :: rest) (A : Arv Z h a kA .int z vs dv) (q1 : ¬ j < 0) (q2 : j < z) (ge : n0 ≤ a) (hp : pc + 1 = pc')
    (g : ∀ h', Wr h h' a j.toNatClampNeg (.int x) → G w Q h' k n pc' Ls rest) : G w Q h k n pc Ls st := by
  subst hp; intro T locs X eT N
  obtain ⟨cl, Ar, hi, -⟩ := arv_inb A q1 q2
  obtain ⟨T', h', X', e', W, s'⟩ := stI X C.ex C.hZ eT Ar (j := j) hi (g := mkF w.m pc Ls st) rfl hs (C.dec hd)
  exact G.to X' e' (fr_snoc N (C.nn ▸ ge)) s' (g h' W)
theorem g_lastore (C : Cx w l Z own bytes mx rt nm rm n0) {a : Addr} {kA : ClassId} {z j : Int32} {vs : List Value} {dv : Value} {x : Int64} (hd : decode bytes pc = .ok (.lastore, 1)) (hs : st = .long x :: .int j :: .ref a :: rest) (A : Arv Z h a kA .long z vs dv) (q1 : ¬ j < 0) (q2 : j < z) (ge : n0 ≤ a) (hp : pc + 1 = pc')
    (g : ∀ h', Wr h h' a j.toNatClampNeg (.long x) → G w Q h' k n pc' Ls rest) : G w Q h k n pc Ls st := by
  subst hp; intro T locs X eT N
  obtain ⟨cl, Ar, hi, -⟩ := arv_inb A q1 q2
  obtain ⟨T', h', X', e', W, s'⟩ := stJ X C.ex C.hZ eT Ar (j := j) hi (g := mkF w.m pc Ls st) rfl hs (C.dec hd)
  exact G.to X' e' (fr_snoc N (C.nn ▸ ge)) s' (g h' W)
theorem g_bastore (C : Cx w l Z own bytes mx rt nm rm n0) {a : Addr} {kA : ClassId} {z j : Int32} {vs : List Value} {dv : Value} {x : Int32} (hd : decode bytes pc = .ok (.bastore, 1)) (hs : st = .int x :: .int j :: .ref a :: rest) (A : Arv Z h a kA .byte z vs dv) (q1 : ¬ j < 0) (q2 : j < z) (ge : n0 ≤ a) (hp : pc + 1 = pc')
    (g : ∀ h', Wr h h' a j.toNatClampNeg (.int (nar .byte x)) → G w Q h' k n pc' Ls rest) : G w Q h k n pc Ls st := by
  subst hp; intro T locs X eT N
  obtain ⟨cl, Ar, hi, -⟩ := arv_inb A q1 q2
  obtain ⟨T', h', X', e', W, s'⟩ := stB X C.ex C.hZ eT Ar (j := j) hi (g := mkF w.m pc Ls st) rfl hs (C.dec hd)
  exact G.to X' e' (fr_snoc N (C.nn ▸ ge)) s' (g h' W)
theorem g_aastore (C : Cx w l Z own bytes mx rt nm rm n0) {a : Addr} {kA : ClassId} {ty : FieldType} {z j : Int32} {vs : List Value} {dv x : Value} (hd : decode bytes pc = .ok (.aastore, 1)) (hs : st = x :: .int j :: .ref a :: rest) (A : Arv Z h a kA ty z vs dv) (hty : ty.isReference = true) (F : Sto Z h a x) (q1 : ¬ j < 0) (q2 : j < z) (ge : n0 ≤ a) (hp : pc + 1 = pc')
    (g : ∀ h', Wr h h' a j.toNatClampNeg x → G w Q h' k n pc' Ls rest) : G w Q h k n pc Ls st := by
  subst hp; intro T locs X eT N
  obtain ⟨cl, Ar, hi, -⟩ := arv_inb A q1 q2
  obtain ⟨T', h', X', e', W, s'⟩ := stR X C.ex C.hZ eT Ar (j := j) hi hty F (g := mkF w.m pc Ls st) rfl hs (C.dec hd)
  exact G.to X' e' (fr_snoc N (C.nn ▸ ge)) s' (g h' W)
/-! returns -/
theorem g_ret (C : Cx w l Z own bytes mx (some t) nm rm n0) {v : Value} {i : Instr} (hd : decode bytes pc = .ok (i, 1)) (hs : st = v :: rest) (hn : narrow t v = v)
    (hi : (i = .ireturn ∧ (t = .int ∨ t = .boolean ∨ t = .byte ∨ t = .char ∨ t = .short) ∧ ∃ z, v = .int z) ∨ (i = .lreturn ∧ t = .long ∧ ∃ z, v = .long z) ∨ (i = .dreturn ∧ t = .double ∧ ∃ z, v = .double z) ∨ (i = .freturn ∧ t = .float ∧ ∃ z, v = .float z) ∨ (i = .areturn ∧ t.isReference = true ∧ v.isRef = true))
    (hk : k ≤ rm.cells) (hnn : n ≤ rm.slots) (q : Q (some v) h) : G w Q h k n pc Ls st := by
  subst hs; intro T locs X eT N
  obtain ⟨fs, hr, hrun, hended, hW, hsame⟩ := X.leave (v := some v) (fun h => by rw [C.ret] at h; cases h) C.lk
  exact ⟨_, _, retOut X C.ex C.ret hn hi (C.dec hd) hr, hrun, hended, _, locs, rfl, ⟨by show Q _ T.heap; rw [eT]; exact q, N⟩, ⟨_, rfl⟩, hW, hsame.mono (by rw [C.ro]; exact hk) (by rw [C.ro]; exact hnn)⟩
theorem g_ireturn (C : Cx w l Z own bytes mx (some .int) nm rm n0) {z : Int32} (hd : decode bytes pc = .ok (.ireturn, 1)) (hs : st = .int z :: rest) (hk : k ≤ rm.cells) (hnn : n ≤ rm.slots) (q : Q (some (.int z)) h) : G w Q h k n pc Ls st :=
  g_ret C hd hs rfl (Or.inl ⟨rfl, Or.inl rfl, z, rfl⟩) hk hnn q
theorem g_zreturn (C : Cx w l Z own bytes mx (some .boolean) nm rm n0) {z : Int32} (hd : decode bytes pc = .ok (.ireturn, 1)) (hs : st = .int z :: rest) (hn : narrow .boolean (.int z) = .int z) (hk : k ≤ rm.cells) (hnn : n ≤ rm.slots) (q : Q (some (.int z)) h) : G w Q h k n pc Ls st :=
  g_ret C hd hs hn (Or.inl ⟨rfl, Or.inr (Or.inl rfl), z, rfl⟩) hk hnn q
theorem g_breturn (C : Cx w l Z own bytes mx (some .byte) nm rm n0) {z : Int32} (hd : decode bytes pc = .ok (.ireturn, 1)) (hs : st = .int z :: rest) (hn : narrow .byte (.int z) = .int z) (hk : k ≤ rm.cells) (hnn : n ≤ rm.slots) (q : Q (some (.int z)) h) : G w Q h k n pc Ls st :=
  g_ret C hd hs hn (Or.inl ⟨rfl, Or.inr (Or.inr (Or.inl rfl)), z, rfl⟩) hk hnn q
theorem g_lreturn (C : Cx w l Z own bytes mx (some .long) nm rm n0) {z : Int64} (hd : decode bytes pc = .ok (.lreturn, 1)) (hs : st = .long z :: rest) (hk : k ≤ rm.cells) (hnn : n ≤ rm.slots) (q : Q (some (.long z)) h) : G w Q h k n pc Ls st :=
  g_ret C hd hs rfl (Or.inr (Or.inl ⟨rfl, rfl, z, rfl⟩)) hk hnn q
theorem g_areturn (C : Cx w l Z own bytes mx (some t) nm rm n0) {v : Value} (hd : decode bytes pc = .ok (.areturn, 1)) (hs : st = v :: rest) (ht : t.isReference = true) (hv : v.isRef = true) (hn : narrow t v = v) (hk : k ≤ rm.cells) (hnn : n ≤ rm.slots) (q : Q (some v) h) : G w Q h k n pc Ls st :=
  g_ret C hd hs hn (Or.inr (Or.inr (Or.inr (Or.inr ⟨rfl, ht, hv⟩)))) hk hnn q
theorem g_return (C : Cx w l Z own bytes mx none nm rm n0) (hd : decode bytes pc = .ok (.return_, 1)) (hs : st = []) (hk : k ≤ rm.cells) (hnn : n ≤ rm.slots) (q : Q none h) : G w Q h k n pc Ls st := by
  subst hs; intro T locs X eT N
  obtain ⟨fs, hr, hrun, hended, hW, hsame⟩ := X.leave (v := none) (fun _ => rfl) C.lk
  exact ⟨_, _, X.returnOut C.ex C.ret (C.dec hd) hr, hrun, hended, _, locs, rfl, ⟨by show Q _ T.heap; rw [eT]; exact q, N⟩, ⟨_, rfl⟩, hW, hsame.mono (by rw [C.ro]; exact hk) (by rw [C.ro]; exact hnn)⟩
/-! calls by the callee's contract -/
theorem g_fin {rm' : Room} {Q' : Option Value → Heap → Prop} {T : State} {locs : List Loc} {as : Array Value} {v : Option Value} {B : Pt} {A : Pt} (C : Cx w l Z own bytes mx rt nm rm n0) (hA : A.locs = locs ∧ A.cells = k ∧ A.slots = n)
    (X' : Stand w.p w.l w.e w.R w.s w.m w.args w.below w.meth w.c B.U B.locs B.cells B.slots) (hQ : ∃ L, (Q' v B.U.heap ∧ Fr n0 L) ∧ B.locs = A.locs ++ L ∧ B.cells = A.cells + rm'.cells ∧ B.slots = A.slots + rm'.slots) (N : Fr w.n0 locs)
    (g : ∀ v h', Q' v h' → G w Q h' (k + rm'.cells) (n + rm'.slots) pc' Ls (psh v rest)) (s' : ∀ t, Steps w.p.tables w.e w.below (B.U.setTop (mkF w.m pc' Ls (v.toList ++ rest))) t → Steps w.p.tables w.e w.below (T.setTop (mkF w.m pc Ls st)) t) : Ends w Q (T.setTop (mkF w.m pc Ls st)) := by
  obtain ⟨T', L', k', n'⟩ := B
  obtain ⟨L, ⟨hq, hL⟩, e1, e2, e3⟩ := hQ
  obtain ⟨a1, a2, a3⟩ := hA
  dsimp only [Pt.U, Pt.locs, Pt.cells, Pt.slots] at X' hq e1 e2 e3 s' a1 a2 a3
  subst a1 a2 a3 e1 e2 e3
  rw [psh_eq] at s'
  exact G.to X' rfl (N.app (C.nn ▸ hL)) s' (g v _ hq)
theorem g_callS (C : Cx w l Z own bytes mx rt nm rm n0) {y : MethodName} {i mL : Nat} {bs : ByteArray} {rt' : Option FieldType} {rm' : Room} {Q' : Option Value → Heap → Prop} {argsL : List Value} {ps : List FieldType} {r : Option FieldType}
    (w1 : (Jvm.Cond.methodLink own i y).before a0 Z = true) (w2 : (Jvm.Cond.static y).before a0 Z = true) (w3 : (Jvm.Cond.initialized y.cls).before a0 Z = true) (w4 : (Jvm.Cond.code y bs mL rt').before a0 Z = true) (hy : y.cls ≠ "java/lang/invoke/MethodHandle" ∧ y.cls ≠ "java/lang/invoke/VarHandle")
    (hd : decode bytes pc = .ok (.invokestatic i, 3)) (pd : parseMethodDescriptor y.desc = some ⟨ps, r⟩) (hlen : argsL.length = ps.length) (hst : st = argsL.reverse ++ rest) (hz : Ls.size = mx)
    (K : Con l Z y bs mL rt' rm' argsL.toArray h n0 Q') (hf : rm'.frames + 1 ≤ rm.frames) (hl : (rest.map fun v => v.category).sum + (mL + 11) + rm'.locals ≤ rm.locals) (hc : k' ≤ rm.cells) (hn : n' ≤ rm.slots) (ek : k + rm'.cells = k') (en : n + rm'.slots = n') (hp : pc + 3 = pc')
    (g : ∀ v h', Q' v h' → G w Q h' k' n' pc' Ls (psh v rest)) : G w Q h k n pc Ls st := by
  subst hp ek en; intro T locs X eT N
  have hl0 : w.l = l := C.1
  subst hl0
  obtain ⟨v, vm₁, B, -, X', hQ, s'⟩ := Jvm.LawKit.callS X C.ex C.ow (mvT C.hZ w1) (mvT C.hZ w2) (mvT C.hZ w3) (mvT C.hZ w4) hy (backOf (W := (rest.map fun v => v.category).sum) (Q := fun v h L => Q' v h ∧ Fr n0 L) (K []) C.hZ w4 w3 (by rw [C.ro]; exact hf) (by rw [C.ro]; exact hl)) (g := mkF w.m pc Ls st) rfl (hz.trans C.ml.symm) (argsL := argsL) (rest := rest) (lenOf pd hlen) hst (by show 2 * 0 + _ ≤ _; omega) (C.dec hd) (fun _ _ => ⟨rfl, eT, by rw [C.ro]; exact hc, by rw [C.ro]; exact hn⟩)
  exact g_fin (T := T) (as := argsL.toArray) (A := (⟨T.setVm vm₁, locs, k, n⟩ : Pt)) C ⟨rfl, rfl, rfl⟩ X' hQ N g s'
theorem g_special (C : Cx w l Z own bytes mx rt nm rm n0) {y : MethodName} {i mL : Nat} {bs : ByteArray} {rm' : Room} {Q' : Option Value → Heap → Prop} {a : Addr} {argsL : List Value} {ps : List FieldType} {r : Option FieldType}
    (w1 : (Jvm.Cond.methodLink own i y).before a0 Z = true) (w2 : (Jvm.Cond.instanceMethod y).before a0 Z = true) (w3 : (Jvm.Cond.initialized y.cls).before a0 Z = true) (w4 : (Jvm.Cond.code y bs mL none).before a0 Z = true) (hy : y.cls ≠ "java/lang/invoke/MethodHandle" ∧ y.cls ≠ "java/lang/invoke/VarHandle") (hy1 : y.name = "<init>")
    (hd : decode bytes pc = .ok (.invokespecial i, 3)) (pd : parseMethodDescriptor y.desc = some ⟨ps, r⟩) (hlen : argsL.length = ps.length) (hst : st = argsL.reverse ++ .ref a :: rest) (hz : Ls.size = mx)
    (K : Con l Z y bs mL none rm' (.ref a :: argsL).toArray h n0 Q') (hf : rm'.frames + 1 ≤ rm.frames) (hl : (rest.map fun v => v.category).sum + (mL + 11) + rm'.locals ≤ rm.locals) (hc : k' ≤ rm.cells) (hn : n' ≤ rm.slots) (ek : k + rm'.cells = k') (en : n + rm'.slots = n') (hp : pc + 3 = pc')
    (g : ∀ v h', Q' v h' → G w Q h' k' n' pc' Ls (psh v rest)) : G w Q h k n pc Ls st := by
  subst hp ek en; intro T locs X eT N
  have hl0 : w.l = l := C.1
  subst hl0
  obtain ⟨v, vm₁, B, -, X', hQ, s'⟩ := X.specialBack C.ex hy1 C.ow (mvT C.hZ w1) (mvT C.hZ w2) (mvT C.hZ w4) hy (backOf (W := (rest.map fun v => v.category).sum) (Q := fun v h L => Q' v h ∧ Fr n0 L) (K []) C.hZ w4 w3 (by rw [C.ro]; exact hf) (by rw [C.ro]; exact hl)) (g := mkF w.m pc Ls st) rfl (hz.trans C.ml.symm) (Steps.refl _) (a := a) (argsL := argsL) (rest := rest) (lenOf pd hlen) hst (by show 2 * 0 + _ ≤ _; omega) (C.dec hd) (fun _ _ => ⟨rfl, eT, by rw [C.ro]; exact hc, by rw [C.ro]; exact hn⟩)
  exact g_fin (T := T) (as := argsL.toArray) (A := (⟨T.setVm vm₁, locs, k, n⟩ : Pt)) C ⟨rfl, rfl, rfl⟩ X' hQ N g (fun t r => s'.trans r)
theorem g_virtual (C : Cx w l Z own bytes mx rt nm rm n0) {y z : MethodName} {B : String} {i mL : Nat} {bs : ByteArray} {rt' : Option FieldType} {rm' : Room} {Q' : Option Value → Heap → Prop} {a : Addr} {argsL : List Value} {ps : List FieldType} {r : Option FieldType}
    (w1 : (Jvm.Cond.methodLink own i y).before a0 Z = true) (w2 : (Jvm.Cond.declares y).before a0 Z = true) (nf : ∀ {s : State}, Z.Warmed39 s.vm → NotFace s y) (ws : (Jvm.Cond.selects B y z).before a0 Z = true) (w5 : (Jvm.Cond.instanceMethod z).before a0 Z = true) (w3 : (Jvm.Cond.initialized z.cls).before a0 Z = true) (w4 : (Jvm.Cond.code z bs mL rt').before a0 Z = true) (hy : y.cls ≠ "java/lang/invoke/MethodHandle" ∧ y.cls ≠ "java/lang/invoke/VarHandle")
    (hd : decode bytes pc = .ok (.invokevirtual i, 3)) (pd : parseMethodDescriptor y.desc = some ⟨ps, r⟩) (hlen : argsL.length = ps.length) (hst : st = argsL.reverse ++ .ref a :: rest) (hz : Ls.size = mx) (E : Exa Z h a B)
    (K : Con l Z z bs mL rt' rm' (.ref a :: argsL).toArray h n0 Q') (hf : rm'.frames + 1 ≤ rm.frames) (hl : (rest.map fun v => v.category).sum + (mL + 11) + rm'.locals ≤ rm.locals) (hc : k' ≤ rm.cells) (hn : n' ≤ rm.slots) (ek : k + rm'.cells = k') (en : n + rm'.slots = n') (hp : pc + 3 = pc')
    (g : ∀ v h', Q' v h' → G w Q h' k' n' pc' Ls (psh v rest)) : G w Q h k n pc Ls st := by
  subst hp ek en; intro T locs X eT N
  have hl0 : w.l = l := C.1
  subst hl0
  obtain ⟨cq, kq, q1, q2, q3⟩ := isOf C.hZ eT E
  obtain ⟨v, vm₁, B, -, X', hQ, s'⟩ := X.virtualBack C.ex C.ow (mvT C.hZ w1) (mvT C.hZ w2) (nf C.hZ) (mvT C.hZ ws) (mvT C.hZ w5) hy (backOf (W := (rest.map fun v => v.category).sum) (Q := fun v h L => Q' v h ∧ Fr n0 L) (K []) C.hZ w4 w3 (by rw [C.ro]; exact hf) (by rw [C.ro]; exact hl)) q1 q3 (g := mkF w.m pc Ls st) rfl (hz.trans C.ml.symm) (Steps.refl _) (argsL := argsL) (rest := rest) (lenOf pd hlen) hst (by show 2 * 0 + _ ≤ _; omega) (C.dec hd) (fun _ _ => ⟨rfl, eT, by rw [C.ro]; exact hc, by rw [C.ro]; exact hn⟩)
  exact g_fin (T := T) (as := argsL.toArray) (A := (⟨T.setVm vm₁, locs, k, n⟩ : Pt)) C ⟨rfl, rfl, rfl⟩ X' hQ N g (fun t r => s'.trans r)
theorem nfSel {y : MethodName} {B : String} (ws : (Jvm.Cond.selects B y y).before a0 Z = true) : ∀ {s : State}, Z.Warmed39 s.vm → NotFace s y := fun hZ => notFace_of_selects (args := #[]) (mvT hZ ws)
theorem g_virtualUp (C : Cx w l Z own bytes mx rt nm rm n0) {y z : MethodName} {B owner : String} {i mL : Nat} {bs : ByteArray} {rt' : Option FieldType} {rm' : Room} {Q' : Option Value → Heap → Prop} {a : Addr} {argsL : List Value} {ps : List FieldType} {r : Option FieldType}
    (w1 : (Jvm.Cond.methodLink own i y).before a0 Z = true) (wm : (Jvm.Cond.sameMethod y.cls owner y.name y.desc).before a0 Z = true) (w2 : (Jvm.Cond.declares ⟨owner, y.name, y.desc⟩).before a0 Z = true) (ho : owner ≠ "java/lang/invoke/MethodHandle" ∧ owner ≠ "java/lang/invoke/VarHandle") (ws : (Jvm.Cond.selects B y z).before a0 Z = true) (w5 : (Jvm.Cond.instanceMethod z).before a0 Z = true) (w3 : (Jvm.Cond.initialized z.cls).before a0 Z = true) (w4 : (Jvm.Cond.code z bs mL rt').before a0 Z = true)
    (hd : decode bytes pc = .ok (.invokevirtual i, 3)) (pd : parseMethodDescriptor y.desc = some ⟨ps, r⟩) (hlen : argsL.length = ps.length) (hst : st = argsL.reverse ++ .ref a :: rest) (hz : Ls.size = mx) (E : Exa Z h a B)
    (K : Con l Z z bs mL rt' rm' (.ref a :: argsL).toArray h n0 Q') (hf : rm'.frames + 1 ≤ rm.frames) (hl : (rest.map fun v => v.category).sum + (mL + 11) + rm'.locals ≤ rm.locals) (hc : k' ≤ rm.cells) (hn : n' ≤ rm.slots) (ek : k + rm'.cells = k') (en : n + rm'.slots = n') (hp : pc + 3 = pc')
    (g : ∀ v h', Q' v h' → G w Q h' k' n' pc' Ls (psh v rest)) : G w Q h k n pc Ls st := by
  subst hp ek en; intro T locs X eT N
  have hl0 : w.l = l := C.1
  subst hl0
  obtain ⟨cq, kq, q1, q2, q3⟩ := isOf C.hZ eT E
  obtain ⟨v, vm₁, B, -, X', hQ, s'⟩ := X.virtualBackUp C.ex C.ow (mvT C.hZ w1) (mvT C.hZ wm) (mvT C.hZ w2) ho (mvT C.hZ ws) (mvT C.hZ w5) (backOf (W := (rest.map fun v => v.category).sum) (Q := fun v h L => Q' v h ∧ Fr n0 L) (K []) C.hZ w4 w3 (by rw [C.ro]; exact hf) (by rw [C.ro]; exact hl)) q1 q3 (g := mkF w.m pc Ls st) rfl (hz.trans C.ml.symm) (Steps.refl _) (argsL := argsL) (rest := rest) (lenOf pd hlen) hst (by show 2 * 0 + _ ≤ _; omega) (C.dec hd) (fun _ _ => ⟨rfl, eT, by rw [C.ro]; exact hc, by rw [C.ro]; exact hn⟩)
  exact g_fin (T := T) (as := argsL.toArray) (A := (⟨T.setVm vm₁, locs, k, n⟩ : Pt)) C ⟨rfl, rfl, rfl⟩ X' hQ N g (fun t r => s'.trans r)
theorem g_interface (C : Cx w l Z own bytes mx rt nm rm n0) {y z : MethodName} {B : String} {count : Nat} {i mL : Nat} {bs : ByteArray} {rt' : Option FieldType} {rm' : Room} {Q' : Option Value → Heap → Prop} {a : Addr} {argsL : List Value} {ps : List FieldType} {r : Option FieldType}
    (w1 : (Jvm.Cond.methodLink own i y).before a0 Z = true) (w2 : (Jvm.Cond.declares y).before a0 Z = true) (wf : (Jvm.Cond.interfaceMethod y.cls y.cls y.name y.desc).before a0 Z = true) (hfa : ((Jvm.Cond.interfaceMethod y.cls y.cls y.name y.desc).onTables && (Jvm.Cond.interfaceMethod y.cls y.cls y.name y.desc).keepsFace) = true) (ws : (Jvm.Cond.selects B y z).before a0 Z = true) (w5 : (Jvm.Cond.instanceMethod z).before a0 Z = true) (wp : (Jvm.Cond.publicMethod z).before a0 Z = true) (wu : (Jvm.Cond.unhidden B y.name y.desc).before a0 Z = true) (wk : (Jvm.Cond.castable B y.cls).before a0 Z = true) (w3 : (Jvm.Cond.initialized z.cls).before a0 Z = true) (w4 : (Jvm.Cond.code z bs mL rt').before a0 Z = true) (hy : y.cls ≠ "java/lang/invoke/MethodHandle" ∧ y.cls ≠ "java/lang/invoke/VarHandle")
    (hd : decode bytes pc = .ok (.invokeinterface i count, 5)) (pd : parseMethodDescriptor y.desc = some ⟨ps, r⟩) (hlen : argsL.length = ps.length) (hst : st = argsL.reverse ++ .ref a :: rest) (hz : Ls.size = mx) (E : Exa Z h a B)
    (K : Con l Z z bs mL rt' rm' (.ref a :: argsL).toArray h n0 Q') (hf : rm'.frames + 1 ≤ rm.frames) (hl : (rest.map fun v => v.category).sum + (mL + 11) + rm'.locals ≤ rm.locals) (hc : k' ≤ rm.cells) (hn : n' ≤ rm.slots) (ek : k + rm'.cells = k') (en : n + rm'.slots = n') (hp : pc + 5 = pc')
    (g : ∀ v h', Q' v h' → G w Q h' k' n' pc' Ls (psh v rest)) : G w Q h k n pc Ls st := by
  subst hp ek en; intro T locs X eT N
  have hl0 : w.l = l := C.1
  subst hl0
  obtain ⟨cq, kq, q1, q2, q3⟩ := isOf C.hZ eT E
  obtain ⟨v, vm₁, B, -, X', hQ, s'⟩ := X.interfaceBack C.ex C.ow (mvT C.hZ w1) (mvT C.hZ w2) (mvT C.hZ wf hfa) (mvT C.hZ ws) (mvT C.hZ w5) (mvT C.hZ wp) (mvT C.hZ wu) (mvT C.hZ wk) hy (backOf (W := (rest.map fun v => v.category).sum) (Q := fun v h L => Q' v h ∧ Fr n0 L) (K []) C.hZ w4 w3 (by rw [C.ro]; exact hf) (by rw [C.ro]; exact hl)) q1 q2 q3 (g := mkF w.m pc Ls st) rfl (hz.trans C.ml.symm) (Steps.refl _) (argsL := argsL) (rest := rest) (lenOf pd hlen) hst (by show 2 * 0 + _ ≤ _; omega) (C.dec hd) (fun _ _ => ⟨rfl, eT, by rw [C.ro]; exact hc, by rw [C.ro]; exact hn⟩)
  exact g_fin (T := T) (as := argsL.toArray) (A := (⟨T.setVm vm₁, locs, k, n⟩ : Pt)) C ⟨rfl, rfl, rfl⟩ X' hQ N g (fun t r => s'.trans r)
theorem g_private (C : Cx w l Z own bytes mx rt nm rm n0) {y : MethodName} {B : String} {kk i mL : Nat} {bs : ByteArray} {rt' : Option FieldType} {rm' : Room} {Q' : Option Value → Heap → Prop} {a : Addr} {argsL : List Value} {ps : List FieldType} {r : Option FieldType}
    (w1 : (Jvm.Cond.methodLink own i y).before a0 Z = true) (w5 : (Jvm.Cond.instanceMethod y).before a0 Z = true) (wi : (Jvm.Cond.instantiable y.cls kk).before a0 Z = true) (wp : (Jvm.Cond.privateMethod y).before a0 Z = true) (w3 : (Jvm.Cond.initialized y.cls).before a0 Z = true) (w4 : (Jvm.Cond.code y bs mL rt').before a0 Z = true) (hy : y.cls ≠ "java/lang/invoke/MethodHandle" ∧ y.cls ≠ "java/lang/invoke/VarHandle")
    (hd : decode bytes pc = .ok (.invokevirtual i, 3)) (pd : parseMethodDescriptor y.desc = some ⟨ps, r⟩) (hlen : argsL.length = ps.length) (hst : st = argsL.reverse ++ .ref a :: rest) (hz : Ls.size = mx) (E : Exa Z h a B)
    (K : Con l Z y bs mL rt' rm' (.ref a :: argsL).toArray h n0 Q') (hf : rm'.frames + 1 ≤ rm.frames) (hl : (rest.map fun v => v.category).sum + (mL + 11) + rm'.locals ≤ rm.locals) (hc : k' ≤ rm.cells) (hn : n' ≤ rm.slots) (ek : k + rm'.cells = k') (en : n + rm'.slots = n') (hp : pc + 3 = pc')
    (g : ∀ v h', Q' v h' → G w Q h' k' n' pc' Ls (psh v rest)) : G w Q h k n pc Ls st := by
  subst hp ek en; intro T locs X eT N
  have hl0 : w.l = l := C.1
  subst hl0
  obtain ⟨cq, q1, q2⟩ := E.cell
  have wi' : (Jvm.Cond.instantiable y.cls kk).before w.args w.s = true := mvT C.hZ wi
  obtain ⟨c2, k2, i1, i2, -, i4, -⟩ := Cond.instantiable_spec wi'
  have hni : k2.isInterface = false := (Bool.or_eq_false_iff.mp i4).1
  have hpv := Cond.privateMethod_at (mvP C.hZ wp (args := w.args))
  obtain ⟨v, vm₁, B, -, X', hQ, s'⟩ := X.privateBack C.ex C.ow (mvT C.hZ w1) (mvT C.hZ w5) (selects_self_of_private i1 i2 hni hpv (mvT C.hZ w5) hy) hpv (mvT C.hZ w4) hy (backOf (W := (rest.map fun v => v.category).sum) (Q := fun v h L => Q' v h ∧ Fr n0 L) (K []) C.hZ w4 w3 (by rw [C.ro]; exact hf) (by rw [C.ro]; exact hl)) (g := mkF w.m pc Ls st) rfl (hz.trans C.ml.symm) (Steps.refl _) (a := a) (by rw [eT]; exact q1) q2 (argsL := argsL) (rest := rest) (lenOf pd hlen) hst (by show 2 * 0 + _ ≤ _; omega) (C.dec hd) (fun _ _ => ⟨rfl, eT, by rw [C.ro]; exact hc, by rw [C.ro]; exact hn⟩)
  exact g_fin (T := T) (as := argsL.toArray) (A := (⟨T.setVm vm₁, locs, k, n⟩ : Pt)) C ⟨rfl, rfl, rfl⟩ X' hQ N g (fun t r => s'.trans r)
theorem g_lswHit (C : Cx w l Z own bytes mx rt nm rm n0) {df : Int} {prs : Array (Int × Int)} {len : Nat} {a o : Int} {i : Int32} (hd : decode bytes pc = .ok (.lookupswitch df prs, len)) (hs : st = .int i :: rest) (hso : (prs.toList.zip (prs.toList.drop 1)).all (fun (a, next) => a.1 < next.1) = true) (hf : prs.find? (·.1 == i.toInt) = some (a, o)) (ho : 0 ≤ (pc : Int) + o) (hp : ((pc : Int) + o).toNat = pc') (g : G w Q h k n pc' Ls rest) : G w Q h k n pc Ls st := by
  subst hp; exact g.adv fun T locs X _ t r => X.lookupswitchHit C.ex (g := mkF w.m pc Ls st) rfl hs (C.dec hd) hso hf ho t r
theorem g_lswMiss (C : Cx w l Z own bytes mx rt nm rm n0) {df : Int} {prs : Array (Int × Int)} {len : Nat} {i : Int32} (hd : decode bytes pc = .ok (.lookupswitch df prs, len)) (hs : st = .int i :: rest) (hso : (prs.toList.zip (prs.toList.drop 1)).all (fun (a, next) => a.1 < next.1) = true) (hf : prs.find? (·.1 == i.toInt) = none) (ho : 0 ≤ (pc : Int) + df) (hp : ((pc : Int) + df).toNat = pc') (g : G w Q h k n pc' Ls rest) : G w Q h k n pc Ls st := by
  subst hp; exact g.adv fun T locs X _ t r => X.lookupswitchMiss C.ex (g := mkF w.m pc Ls st) rfl hs (C.dec hd) hso hf ho t r
end Gs
theorem wd {Z : State} {a0 : Array Value} (hw : ∀ d ∈ tables_1, d.before a0 Z = true) (i : Nat) {d : Jvm.Cond} (e : tables_1[i]? = some d) : d.before a0 Z = true := hw _ (List.mem_of_getElem? e)
theorem own_fldInt {args : Array Value} {s : State} {t : Term} {a : Addr} {C f d : String} {k : Int32} (ev : t.eval args s none [] s = some (.ref a)) (h : (Jvm.Cond.eq (.field t C f d) (.int k)).value args s none s [] = some true) : Fld s s.heap a C f d (.int k) := by
  obtain ⟨x, y, hx, hy, k1, k2⟩ := cmp_v (Or.inl h)
  cases (Term.int_eval k).symm.trans hy
  obtain ⟨z, rfl⟩ : ∃ z, x = .int z := by simpa [Kin] using k2
  have e : z = k := by simpa [Jvm.Cond.value, hx, hy] using h
  subst e
  rw [fld_at ev] at hx
  exact Fld.start hx
theorem own_fldLong {args : Array Value} {s : State} {t : Term} {a : Addr} {C f d : String} {k : Int64} (ev : t.eval args s none [] s = some (.ref a)) (h : (Jvm.Cond.eq (.field t C f d) (.long k)).value args s none s [] = some true) : Fld s s.heap a C f d (.long k) := by
  obtain ⟨x, y, hx, hy, k1, k2⟩ := cmp_v (Or.inl h)
  cases (long_at k).symm.trans hy
  obtain ⟨z, rfl⟩ : ∃ z, x = .long z := by simpa [Kin] using k2
  have e : z = k := by simpa [Jvm.Cond.value, hx, hy] using h
  subst e
  rw [fld_at ev] at hx
  exact Fld.start hx
theorem own_staLong {args : Array Value} {s : State} {t : Term} {k : Int64} (h : (Jvm.Cond.eq t (.long k)).value args s none s [] = some true) : t.eval args s none [] s = some (.long k) := by
  obtain ⟨x, y, hx, hy, k1, k2⟩ := cmp_v (Or.inl h)
  cases (long_at k).symm.trans hy
  obtain ⟨z, rfl⟩ : ∃ z, x = .long z := by simpa [Kin] using k2
  have e : z = k := by simpa [Jvm.Cond.value, hx, hy] using h
  subst e
  exact hx
theorem own_staInt {args : Array Value} {s : State} {t : Term} {k : Int32} (h : (Jvm.Cond.eq t (.int k)).value args s none s [] = some true) : t.eval args s none [] s = some (.int k) := by
  obtain ⟨x, y, hx, hy, k1, k2⟩ := cmp_v (Or.inl h)
  cases (Term.int_eval k).symm.trans hy
  obtain ⟨z, rfl⟩ : ∃ z, x = .int z := by simpa [Kin] using k2
  have e : z = k := by simpa [Jvm.Cond.value, hx, hy] using h
  subst e
  exact hx
theorem own_ine {i j : Int32} (h : i ≠ j) : (Value.int i) ≠ .int j := fun q => h (by injection q)
theorem own_mask31 (x : Int32) : 0 ≤ (x &&& 2147483647).toInt ∧ (x &&& 2147483647).toInt < 2147483648 := by
  have := c_mask x 2147483647 31 (by decide) (by decide)
  rw [this]; omega
def En (Z : State) (s_OTHER : Addr) (s_STRING : Addr) (s_INTEGER : Addr) : Prop := (Sta Z Z.heap "com/example/tributary/tributary/source/rdb/Column$Kind" "OTHER" "Lcom/example/tributary/tributary/source/rdb/Column$Kind;" (.ref s_OTHER)) ∧ (Exa Z Z.heap s_OTHER "com/example/tributary/tributary/source/rdb/Column$Kind") ∧ (Sta Z Z.heap "com/example/tributary/tributary/source/rdb/Column$Kind" "STRING" "Lcom/example/tributary/tributary/source/rdb/Column$Kind;" (.ref s_STRING)) ∧ (Exa Z Z.heap s_STRING "com/example/tributary/tributary/source/rdb/Column$Kind") ∧ (Sta Z Z.heap "com/example/tributary/tributary/source/rdb/Column$Kind" "INTEGER" "Lcom/example/tributary/tributary/source/rdb/Column$Kind;" (.ref s_INTEGER)) ∧ (Exa Z Z.heap s_INTEGER "com/example/tributary/tributary/source/rdb/Column$Kind")
theorem own_t (t : Int32) : t = (1 : Int32) ∨ t = (12 : Int32) ∨ t = (-1 : Int32) ∨ t = (-15 : Int32) ∨ t = (-9 : Int32) ∨ t = (-16 : Int32) ∨ t = (2005 : Int32) ∨ t = (2011 : Int32) ∨ t = (-6 : Int32) ∨ t = (5 : Int32) ∨ t = (4 : Int32) ∨ t = (-5 : Int32) ∨ (¬ t = (1 : Int32) ∧ ¬ t = (12 : Int32) ∧ ¬ t = (-1 : Int32) ∧ ¬ t = (-15 : Int32) ∧ ¬ t = (-9 : Int32) ∧ ¬ t = (-16 : Int32) ∧ ¬ t = (2005 : Int32) ∧ ¬ t = (2011 : Int32) ∧ ¬ t = (-6 : Int32) ∧ ¬ t = (5 : Int32) ∧ ¬ t = (4 : Int32) ∧ ¬ t = (-5 : Int32)) := by
  by_cases c0 : t = (1 : Int32)
  · exact Or.inl c0
  by_cases c1 : t = (12 : Int32)
  · exact Or.inr (Or.inl c1)
  by_cases c2 : t = (-1 : Int32)
  · exact Or.inr (Or.inr (Or.inl c2))
  by_cases c3 : t = (-15 : Int32)
  · exact Or.inr (Or.inr (Or.inr (Or.inl c3)))
  by_cases c4 : t = (-9 : Int32)
  · exact Or.inr (Or.inr (Or.inr (Or.inr (Or.inl c4))))
  by_cases c5 : t = (-16 : Int32)
  · exact Or.inr (Or.inr (Or.inr (Or.inr (Or.inr (Or.inl c5)))))
  by_cases c6 : t = (2005 : Int32)
  · exact Or.inr (Or.inr (Or.inr (Or.inr (Or.inr (Or.inr (Or.inl c6))))))
  by_cases c7 : t = (2011 : Int32)
  · exact Or.inr (Or.inr (Or.inr (Or.inr (Or.inr (Or.inr (Or.inr (Or.inl c7)))))))
  by_cases c8 : t = (-6 : Int32)
  · exact Or.inr (Or.inr (Or.inr (Or.inr (Or.inr (Or.inr (Or.inr (Or.inr (Or.inl c8))))))))
  by_cases c9 : t = (5 : Int32)
  · exact Or.inr (Or.inr (Or.inr (Or.inr (Or.inr (Or.inr (Or.inr (Or.inr (Or.inr (Or.inl c9)))))))))
  by_cases c10 : t = (4 : Int32)
  · exact Or.inr (Or.inr (Or.inr (Or.inr (Or.inr (Or.inr (Or.inr (Or.inr (Or.inr (Or.inr (Or.inl c10))))))))))
  by_cases c11 : t = (-5 : Int32)
  · exact Or.inr (Or.inr (Or.inr (Or.inr (Or.inr (Or.inr (Or.inr (Or.inr (Or.inr (Or.inr (Or.inr (Or.inl c11)))))))))))
  exact Or.inr (Or.inr (Or.inr (Or.inr (Or.inr (Or.inr (Or.inr (Or.inr (Or.inr (Or.inr (Or.inr (Or.inr ⟨c0, c1, c2, c3, c4, c5, c6, c7, c8, c9, c10, c11⟩)))))))))))
theorem d1_0 : decode prog_30_method_4_code 0 = .ok (.iload_n 0, 1) := by decide +kernel
theorem d1_1 : decode prog_30_method_4_code 1 = .ok (.lookupswitch 115 #[(-16, 107), (-15, 107), (-9, 107), (-6, 111), (-5, 111), (-1, 107), (1, 107), (4, 111), (5, 111), (12, 107), (2005, 107), (2011, 107)], 107) := by decide +kernel
theorem d1_108 : decode prog_30_method_4_code 108 = .ok (.getstatic 3, 3) := by decide +kernel
theorem d1_111 : decode prog_30_method_4_code 111 = .ok (.areturn, 1) := by decide +kernel
theorem pn_0 : plainName "com/example/tributary/tributary/source/rdb/Column$Kind" = true := by first | (simp [plainName, overriddenIn]; done) | decide +kernel
set_option maxRecDepth 65536 in
set_option maxHeartbeats 40000000 in
theorem of_1 (l : Launch) (Z : State) (a0 : Array Value) (hw : ∀ d ∈ tables_1, d.before a0 Z = true) (n0 : Nat) (h : Heap) (O : Old Z n0 h) (s_OTHER : Addr) (s_STRING : Addr) (s_INTEGER : Addr) (H : En Z s_OTHER s_STRING s_INTEGER) : Con l Z (⟨"com/example/tributary/tributary/source/rdb/Column$Kind", "of", "(I)Lcom/example/tributary/tributary/source/rdb/Column$Kind;"⟩ : MethodName) prog_30_method_4_code 1 (some (.object "com/example/tributary/tributary/source/rdb/Column$Kind")) ({ frames := 0, cells := 0, slots := 0, locals := 0 } : Room) #[(.int (1 : Int32))] h n0 (fun v h' => v = some (.ref s_STRING) ∧ h' = h) := by
  refine Con.mk (Ls := #[.val (.int (1 : Int32))]) (plainFor_of_name pn_0) (fun m => by first | (simp [entryFrame, mkF, argsToLocals, Value.category]; done) | rfl) (fun w C => ?_)
  replace C : Cx w l Z "com/example/tributary/tributary/source/rdb/Column$Kind" prog_30_method_4_code 1 (some (.object "com/example/tributary/tributary/source/rdb/Column$Kind")) "of" ({ frames := 0, cells := 0, slots := 0, locals := 0 } : Room) n0 := C
  obtain ⟨S_OTHER, E_OTHER, S_STRING, E_STRING, S_INTEGER, E_INTEGER⟩ := id H
  refine g_iloadN C (pc' := 1) d1_0 rfl rfl ?_
  refine g_lswHit C (pc' := 108) (a := 1) (o := 107) d1_1 rfl (by decide) (by decide) (by decide) rfl ?_
  refine g_getS C (pc' := 111) (wd hw 14 rfl) Via.refl d1_108 (S_STRING.ext O.2) rfl ?_
  exact g_areturn C d1_111 rfl rfl rfl rfl (Nat.le_of_ble_eq_true rfl) (Nat.le_of_ble_eq_true rfl) (⟨rfl, rfl⟩)
theorem d2_0 : decode method_2_code 0 = .ok (.iload_n 0, 1) := by decide +kernel
theorem d2_1 : decode method_2_code 1 = .ok (.iconst 1, 1) := by decide +kernel
theorem d2_2 : decode method_2_code 2 = .ok (.if_icmp .eq 46, 3) := by decide +kernel
theorem d2_48 : decode method_2_code 48 = .ok (.iconst 0, 1) := by decide +kernel
theorem d2_49 : decode method_2_code 49 = .ok (.ireturn, 1) := by decide +kernel
theorem pn_1 : plainName "com/example/tributary/tributary/source/rdb/KindOfPinLaw" = true := by first | (simp [plainName, overriddenIn]; done) | decide +kernel
set_option maxRecDepth 65536 in
set_option maxHeartbeats 40000000 in
theorem ex_1 (l : Launch) (Z : State) (a0 : Array Value) (hw : ∀ d ∈ tables_1, d.before a0 Z = true) (n0 : Nat) (h : Heap) (O : Old Z n0 h) (s_OTHER : Addr) (s_STRING : Addr) (s_INTEGER : Addr) (H : En Z s_OTHER s_STRING s_INTEGER) : Con l Z (⟨"com/example/tributary/tributary/source/rdb/KindOfPinLaw", "expected", "(I)I"⟩ : MethodName) method_2_code 1 (some .int) ({ frames := 0, cells := 0, slots := 0, locals := 0 } : Room) #[(.int (1 : Int32))] h n0 (fun v h' => v = some (.int (0 : Int32)) ∧ h' = h) := by
  refine Con.mk (Ls := #[.val (.int (1 : Int32))]) (plainFor_of_name pn_1) (fun m => by first | (simp [entryFrame, mkF, argsToLocals, Value.category]; done) | rfl) (fun w C => ?_)
  replace C : Cx w l Z "com/example/tributary/tributary/source/rdb/KindOfPinLaw" method_2_code 1 (some .int) "expected" ({ frames := 0, cells := 0, slots := 0, locals := 0 } : Room) n0 := C
  obtain ⟨S_OTHER, E_OTHER, S_STRING, E_STRING, S_INTEGER, E_INTEGER⟩ := id H
  refine g_iloadN C (pc' := 1) d2_0 rfl rfl ?_
  refine g_iconst C (pc' := 2) (v := (1 : Int32)) d2_1 (by decide) rfl ?_
  refine g_icY C (pc' := 48) d2_2 rfl (by decide) (by decide) rfl ?_
  refine g_iconst C (pc' := 49) (v := (0 : Int32)) d2_48 (by decide) rfl ?_
  exact g_ireturn C d2_49 rfl (Nat.le_of_ble_eq_true rfl) (Nat.le_of_ble_eq_true rfl) (⟨rfl, rfl⟩)
set_option maxRecDepth 65536 in
set_option maxHeartbeats 40000000 in
theorem of_12 (l : Launch) (Z : State) (a0 : Array Value) (hw : ∀ d ∈ tables_1, d.before a0 Z = true) (n0 : Nat) (h : Heap) (O : Old Z n0 h) (s_OTHER : Addr) (s_STRING : Addr) (s_INTEGER : Addr) (H : En Z s_OTHER s_STRING s_INTEGER) : Con l Z (⟨"com/example/tributary/tributary/source/rdb/Column$Kind", "of", "(I)Lcom/example/tributary/tributary/source/rdb/Column$Kind;"⟩ : MethodName) prog_30_method_4_code 1 (some (.object "com/example/tributary/tributary/source/rdb/Column$Kind")) ({ frames := 0, cells := 0, slots := 0, locals := 0 } : Room) #[(.int (12 : Int32))] h n0 (fun v h' => v = some (.ref s_STRING) ∧ h' = h) := by
  refine Con.mk (Ls := #[.val (.int (12 : Int32))]) (plainFor_of_name pn_0) (fun m => by first | (simp [entryFrame, mkF, argsToLocals, Value.category]; done) | rfl) (fun w C => ?_)
  replace C : Cx w l Z "com/example/tributary/tributary/source/rdb/Column$Kind" prog_30_method_4_code 1 (some (.object "com/example/tributary/tributary/source/rdb/Column$Kind")) "of" ({ frames := 0, cells := 0, slots := 0, locals := 0 } : Room) n0 := C
  obtain ⟨S_OTHER, E_OTHER, S_STRING, E_STRING, S_INTEGER, E_INTEGER⟩ := id H
  refine g_iloadN C (pc' := 1) d1_0 rfl rfl ?_
  refine g_lswHit C (pc' := 108) (a := 12) (o := 107) d1_1 rfl (by decide) (by decide) (by decide) rfl ?_
  refine g_getS C (pc' := 111) (wd hw 14 rfl) Via.refl d1_108 (S_STRING.ext O.2) rfl ?_
  exact g_areturn C d1_111 rfl rfl rfl rfl (Nat.le_of_ble_eq_true rfl) (Nat.le_of_ble_eq_true rfl) (⟨rfl, rfl⟩)
theorem d2_5 : decode method_2_code 5 = .ok (.iload_n 0, 1) := by decide +kernel
theorem d2_6 : decode method_2_code 6 = .ok (.bipush 12, 2) := by decide +kernel
theorem d2_8 : decode method_2_code 8 = .ok (.if_icmp .eq 40, 3) := by decide +kernel
set_option maxRecDepth 65536 in
set_option maxHeartbeats 40000000 in
theorem ex_12 (l : Launch) (Z : State) (a0 : Array Value) (hw : ∀ d ∈ tables_1, d.before a0 Z = true) (n0 : Nat) (h : Heap) (O : Old Z n0 h) (s_OTHER : Addr) (s_STRING : Addr) (s_INTEGER : Addr) (H : En Z s_OTHER s_STRING s_INTEGER) : Con l Z (⟨"com/example/tributary/tributary/source/rdb/KindOfPinLaw", "expected", "(I)I"⟩ : MethodName) method_2_code 1 (some .int) ({ frames := 0, cells := 0, slots := 0, locals := 0 } : Room) #[(.int (12 : Int32))] h n0 (fun v h' => v = some (.int (0 : Int32)) ∧ h' = h) := by
  refine Con.mk (Ls := #[.val (.int (12 : Int32))]) (plainFor_of_name pn_1) (fun m => by first | (simp [entryFrame, mkF, argsToLocals, Value.category]; done) | rfl) (fun w C => ?_)
  replace C : Cx w l Z "com/example/tributary/tributary/source/rdb/KindOfPinLaw" method_2_code 1 (some .int) "expected" ({ frames := 0, cells := 0, slots := 0, locals := 0 } : Room) n0 := C
  obtain ⟨S_OTHER, E_OTHER, S_STRING, E_STRING, S_INTEGER, E_INTEGER⟩ := id H
  refine g_iloadN C (pc' := 1) d2_0 rfl rfl ?_
  refine g_iconst C (pc' := 2) (v := (1 : Int32)) d2_1 (by decide) rfl ?_
  refine g_icN C (pc' := 5) d2_2 rfl (by decide) rfl ?_
  refine g_iloadN C (pc' := 6) d2_5 rfl rfl ?_
  refine g_bipush C (pc' := 8) (v := (12 : Int32)) d2_6 (by decide) rfl ?_
  refine g_icY C (pc' := 48) d2_8 rfl (by decide) (by decide) rfl ?_
  refine g_iconst C (pc' := 49) (v := (0 : Int32)) d2_48 (by decide) rfl ?_
  exact g_ireturn C d2_49 rfl (Nat.le_of_ble_eq_true rfl) (Nat.le_of_ble_eq_true rfl) (⟨rfl, rfl⟩)
set_option maxRecDepth 65536 in
set_option maxHeartbeats 40000000 in
theorem of_m1 (l : Launch) (Z : State) (a0 : Array Value) (hw : ∀ d ∈ tables_1, d.before a0 Z = true) (n0 : Nat) (h : Heap) (O : Old Z n0 h) (s_OTHER : Addr) (s_STRING : Addr) (s_INTEGER : Addr) (H : En Z s_OTHER s_STRING s_INTEGER) : Con l Z (⟨"com/example/tributary/tributary/source/rdb/Column$Kind", "of", "(I)Lcom/example/tributary/tributary/source/rdb/Column$Kind;"⟩ : MethodName) prog_30_method_4_code 1 (some (.object "com/example/tributary/tributary/source/rdb/Column$Kind")) ({ frames := 0, cells := 0, slots := 0, locals := 0 } : Room) #[(.int (-1 : Int32))] h n0 (fun v h' => v = some (.ref s_STRING) ∧ h' = h) := by
  refine Con.mk (Ls := #[.val (.int (-1 : Int32))]) (plainFor_of_name pn_0) (fun m => by first | (simp [entryFrame, mkF, argsToLocals, Value.category]; done) | rfl) (fun w C => ?_)
  replace C : Cx w l Z "com/example/tributary/tributary/source/rdb/Column$Kind" prog_30_method_4_code 1 (some (.object "com/example/tributary/tributary/source/rdb/Column$Kind")) "of" ({ frames := 0, cells := 0, slots := 0, locals := 0 } : Room) n0 := C
  obtain ⟨S_OTHER, E_OTHER, S_STRING, E_STRING, S_INTEGER, E_INTEGER⟩ := id H
  refine g_iloadN C (pc' := 1) d1_0 rfl rfl ?_
  refine g_lswHit C (pc' := 108) (a := (-1)) (o := 107) d1_1 rfl (by decide) (by decide) (by decide) rfl ?_
  refine g_getS C (pc' := 111) (wd hw 14 rfl) Via.refl d1_108 (S_STRING.ext O.2) rfl ?_
  exact g_areturn C d1_111 rfl rfl rfl rfl (Nat.le_of_ble_eq_true rfl) (Nat.le_of_ble_eq_true rfl) (⟨rfl, rfl⟩)
theorem d2_11 : decode method_2_code 11 = .ok (.iload_n 0, 1) := by decide +kernel
theorem d2_12 : decode method_2_code 12 = .ok (.iconst (-1), 1) := by decide +kernel
theorem d2_13 : decode method_2_code 13 = .ok (.if_icmp .eq 35, 3) := by decide +kernel
set_option maxRecDepth 65536 in
set_option maxHeartbeats 40000000 in
theorem ex_m1 (l : Launch) (Z : State) (a0 : Array Value) (hw : ∀ d ∈ tables_1, d.before a0 Z = true) (n0 : Nat) (h : Heap) (O : Old Z n0 h) (s_OTHER : Addr) (s_STRING : Addr) (s_INTEGER : Addr) (H : En Z s_OTHER s_STRING s_INTEGER) : Con l Z (⟨"com/example/tributary/tributary/source/rdb/KindOfPinLaw", "expected", "(I)I"⟩ : MethodName) method_2_code 1 (some .int) ({ frames := 0, cells := 0, slots := 0, locals := 0 } : Room) #[(.int (-1 : Int32))] h n0 (fun v h' => v = some (.int (0 : Int32)) ∧ h' = h) := by
  refine Con.mk (Ls := #[.val (.int (-1 : Int32))]) (plainFor_of_name pn_1) (fun m => by first | (simp [entryFrame, mkF, argsToLocals, Value.category]; done) | rfl) (fun w C => ?_)
  replace C : Cx w l Z "com/example/tributary/tributary/source/rdb/KindOfPinLaw" method_2_code 1 (some .int) "expected" ({ frames := 0, cells := 0, slots := 0, locals := 0 } : Room) n0 := C
  obtain ⟨S_OTHER, E_OTHER, S_STRING, E_STRING, S_INTEGER, E_INTEGER⟩ := id H
  refine g_iloadN C (pc' := 1) d2_0 rfl rfl ?_
  refine g_iconst C (pc' := 2) (v := (1 : Int32)) d2_1 (by decide) rfl ?_
  refine g_icN C (pc' := 5) d2_2 rfl (by decide) rfl ?_
  refine g_iloadN C (pc' := 6) d2_5 rfl rfl ?_
  refine g_bipush C (pc' := 8) (v := (12 : Int32)) d2_6 (by decide) rfl ?_
  refine g_icN C (pc' := 11) d2_8 rfl (by decide) rfl ?_
  refine g_iloadN C (pc' := 12) d2_11 rfl rfl ?_
  refine g_iconst C (pc' := 13) (v := (-1 : Int32)) d2_12 (by decide) rfl ?_
  refine g_icY C (pc' := 48) d2_13 rfl (by decide) (by decide) rfl ?_
  refine g_iconst C (pc' := 49) (v := (0 : Int32)) d2_48 (by decide) rfl ?_
  exact g_ireturn C d2_49 rfl (Nat.le_of_ble_eq_true rfl) (Nat.le_of_ble_eq_true rfl) (⟨rfl, rfl⟩)
set_option maxRecDepth 65536 in
set_option maxHeartbeats 40000000 in
theorem of_m15 (l : Launch) (Z : State) (a0 : Array Value) (hw : ∀ d ∈ tables_1, d.before a0 Z = true) (n0 : Nat) (h : Heap) (O : Old Z n0 h) (s_OTHER : Addr) (s_STRING : Addr) (s_INTEGER : Addr) (H : En Z s_OTHER s_STRING s_INTEGER) : Con l Z (⟨"com/example/tributary/tributary/source/rdb/Column$Kind", "of", "(I)Lcom/example/tributary/tributary/source/rdb/Column$Kind;"⟩ : MethodName) prog_30_method_4_code 1 (some (.object "com/example/tributary/tributary/source/rdb/Column$Kind")) ({ frames := 0, cells := 0, slots := 0, locals := 0 } : Room) #[(.int (-15 : Int32))] h n0 (fun v h' => v = some (.ref s_STRING) ∧ h' = h) := by
  refine Con.mk (Ls := #[.val (.int (-15 : Int32))]) (plainFor_of_name pn_0) (fun m => by first | (simp [entryFrame, mkF, argsToLocals, Value.category]; done) | rfl) (fun w C => ?_)
  replace C : Cx w l Z "com/example/tributary/tributary/source/rdb/Column$Kind" prog_30_method_4_code 1 (some (.object "com/example/tributary/tributary/source/rdb/Column$Kind")) "of" ({ frames := 0, cells := 0, slots := 0, locals := 0 } : Room) n0 := C
  obtain ⟨S_OTHER, E_OTHER, S_STRING, E_STRING, S_INTEGER, E_INTEGER⟩ := id H
  refine g_iloadN C (pc' := 1) d1_0 rfl rfl ?_
  refine g_lswHit C (pc' := 108) (a := (-15)) (o := 107) d1_1 rfl (by decide) (by decide) (by decide) rfl ?_
  refine g_getS C (pc' := 111) (wd hw 14 rfl) Via.refl d1_108 (S_STRING.ext O.2) rfl ?_
  exact g_areturn C d1_111 rfl rfl rfl rfl (Nat.le_of_ble_eq_true rfl) (Nat.le_of_ble_eq_true rfl) (⟨rfl, rfl⟩)
theorem d2_16 : decode method_2_code 16 = .ok (.iload_n 0, 1) := by decide +kernel
theorem d2_17 : decode method_2_code 17 = .ok (.bipush (-15), 2) := by decide +kernel
theorem d2_19 : decode method_2_code 19 = .ok (.if_icmp .eq 29, 3) := by decide +kernel
set_option maxRecDepth 65536 in
set_option maxHeartbeats 40000000 in
theorem ex_m15 (l : Launch) (Z : State) (a0 : Array Value) (hw : ∀ d ∈ tables_1, d.before a0 Z = true) (n0 : Nat) (h : Heap) (O : Old Z n0 h) (s_OTHER : Addr) (s_STRING : Addr) (s_INTEGER : Addr) (H : En Z s_OTHER s_STRING s_INTEGER) : Con l Z (⟨"com/example/tributary/tributary/source/rdb/KindOfPinLaw", "expected", "(I)I"⟩ : MethodName) method_2_code 1 (some .int) ({ frames := 0, cells := 0, slots := 0, locals := 0 } : Room) #[(.int (-15 : Int32))] h n0 (fun v h' => v = some (.int (0 : Int32)) ∧ h' = h) := by
  refine Con.mk (Ls := #[.val (.int (-15 : Int32))]) (plainFor_of_name pn_1) (fun m => by first | (simp [entryFrame, mkF, argsToLocals, Value.category]; done) | rfl) (fun w C => ?_)
  replace C : Cx w l Z "com/example/tributary/tributary/source/rdb/KindOfPinLaw" method_2_code 1 (some .int) "expected" ({ frames := 0, cells := 0, slots := 0, locals := 0 } : Room) n0 := C
  obtain ⟨S_OTHER, E_OTHER, S_STRING, E_STRING, S_INTEGER, E_INTEGER⟩ := id H
  refine g_iloadN C (pc' := 1) d2_0 rfl rfl ?_
  refine g_iconst C (pc' := 2) (v := (1 : Int32)) d2_1 (by decide) rfl ?_
  refine g_icN C (pc' := 5) d2_2 rfl (by decide) rfl ?_
  refine g_iloadN C (pc' := 6) d2_5 rfl rfl ?_
  refine g_bipush C (pc' := 8) (v := (12 : Int32)) d2_6 (by decide) rfl ?_
  refine g_icN C (pc' := 11) d2_8 rfl (by decide) rfl ?_
  refine g_iloadN C (pc' := 12) d2_11 rfl rfl ?_
  refine g_iconst C (pc' := 13) (v := (-1 : Int32)) d2_12 (by decide) rfl ?_
  refine g_icN C (pc' := 16) d2_13 rfl (by decide) rfl ?_
  refine g_iloadN C (pc' := 17) d2_16 rfl rfl ?_
  refine g_bipush C (pc' := 19) (v := (-15 : Int32)) d2_17 (by decide) rfl ?_
  refine g_icY C (pc' := 48) d2_19 rfl (by decide) (by decide) rfl ?_
  refine g_iconst C (pc' := 49) (v := (0 : Int32)) d2_48 (by decide) rfl ?_
  exact g_ireturn C d2_49 rfl (Nat.le_of_ble_eq_true rfl) (Nat.le_of_ble_eq_true rfl) (⟨rfl, rfl⟩)
set_option maxRecDepth 65536 in
set_option maxHeartbeats 40000000 in
theorem of_m9 (l : Launch) (Z : State) (a0 : Array Value) (hw : ∀ d ∈ tables_1, d.before a0 Z = true) (n0 : Nat) (h : Heap) (O : Old Z n0 h) (s_OTHER : Addr) (s_STRING : Addr) (s_INTEGER : Addr) (H : En Z s_OTHER s_STRING s_INTEGER) : Con l Z (⟨"com/example/tributary/tributary/source/rdb/Column$Kind", "of", "(I)Lcom/example/tributary/tributary/source/rdb/Column$Kind;"⟩ : MethodName) prog_30_method_4_code 1 (some (.object "com/example/tributary/tributary/source/rdb/Column$Kind")) ({ frames := 0, cells := 0, slots := 0, locals := 0 } : Room) #[(.int (-9 : Int32))] h n0 (fun v h' => v = some (.ref s_STRING) ∧ h' = h) := by
  refine Con.mk (Ls := #[.val (.int (-9 : Int32))]) (plainFor_of_name pn_0) (fun m => by first | (simp [entryFrame, mkF, argsToLocals, Value.category]; done) | rfl) (fun w C => ?_)
  replace C : Cx w l Z "com/example/tributary/tributary/source/rdb/Column$Kind" prog_30_method_4_code 1 (some (.object "com/example/tributary/tributary/source/rdb/Column$Kind")) "of" ({ frames := 0, cells := 0, slots := 0, locals := 0 } : Room) n0 := C
  obtain ⟨S_OTHER, E_OTHER, S_STRING, E_STRING, S_INTEGER, E_INTEGER⟩ := id H
  refine g_iloadN C (pc' := 1) d1_0 rfl rfl ?_
  refine g_lswHit C (pc' := 108) (a := (-9)) (o := 107) d1_1 rfl (by decide) (by decide) (by decide) rfl ?_
  refine g_getS C (pc' := 111) (wd hw 14 rfl) Via.refl d1_108 (S_STRING.ext O.2) rfl ?_
  exact g_areturn C d1_111 rfl rfl rfl rfl (Nat.le_of_ble_eq_true rfl) (Nat.le_of_ble_eq_true rfl) (⟨rfl, rfl⟩)
theorem d2_22 : decode method_2_code 22 = .ok (.iload_n 0, 1) := by decide +kernel
theorem d2_23 : decode method_2_code 23 = .ok (.bipush (-9), 2) := by decide +kernel
theorem d2_25 : decode method_2_code 25 = .ok (.if_icmp .eq 23, 3) := by decide +kernel
set_option maxRecDepth 65536 in
set_option maxHeartbeats 40000000 in
theorem ex_m9 (l : Launch) (Z : State) (a0 : Array Value) (hw : ∀ d ∈ tables_1, d.before a0 Z = true) (n0 : Nat) (h : Heap) (O : Old Z n0 h) (s_OTHER : Addr) (s_STRING : Addr) (s_INTEGER : Addr) (H : En Z s_OTHER s_STRING s_INTEGER) : Con l Z (⟨"com/example/tributary/tributary/source/rdb/KindOfPinLaw", "expected", "(I)I"⟩ : MethodName) method_2_code 1 (some .int) ({ frames := 0, cells := 0, slots := 0, locals := 0 } : Room) #[(.int (-9 : Int32))] h n0 (fun v h' => v = some (.int (0 : Int32)) ∧ h' = h) := by
  refine Con.mk (Ls := #[.val (.int (-9 : Int32))]) (plainFor_of_name pn_1) (fun m => by first | (simp [entryFrame, mkF, argsToLocals, Value.category]; done) | rfl) (fun w C => ?_)
  replace C : Cx w l Z "com/example/tributary/tributary/source/rdb/KindOfPinLaw" method_2_code 1 (some .int) "expected" ({ frames := 0, cells := 0, slots := 0, locals := 0 } : Room) n0 := C
  obtain ⟨S_OTHER, E_OTHER, S_STRING, E_STRING, S_INTEGER, E_INTEGER⟩ := id H
  refine g_iloadN C (pc' := 1) d2_0 rfl rfl ?_
  refine g_iconst C (pc' := 2) (v := (1 : Int32)) d2_1 (by decide) rfl ?_
  refine g_icN C (pc' := 5) d2_2 rfl (by decide) rfl ?_
  refine g_iloadN C (pc' := 6) d2_5 rfl rfl ?_
  refine g_bipush C (pc' := 8) (v := (12 : Int32)) d2_6 (by decide) rfl ?_
  refine g_icN C (pc' := 11) d2_8 rfl (by decide) rfl ?_
  refine g_iloadN C (pc' := 12) d2_11 rfl rfl ?_
  refine g_iconst C (pc' := 13) (v := (-1 : Int32)) d2_12 (by decide) rfl ?_
  refine g_icN C (pc' := 16) d2_13 rfl (by decide) rfl ?_
  refine g_iloadN C (pc' := 17) d2_16 rfl rfl ?_
  refine g_bipush C (pc' := 19) (v := (-15 : Int32)) d2_17 (by decide) rfl ?_
  refine g_icN C (pc' := 22) d2_19 rfl (by decide) rfl ?_
  refine g_iloadN C (pc' := 23) d2_22 rfl rfl ?_
  refine g_bipush C (pc' := 25) (v := (-9 : Int32)) d2_23 (by decide) rfl ?_
  refine g_icY C (pc' := 48) d2_25 rfl (by decide) (by decide) rfl ?_
  refine g_iconst C (pc' := 49) (v := (0 : Int32)) d2_48 (by decide) rfl ?_
  exact g_ireturn C d2_49 rfl (Nat.le_of_ble_eq_true rfl) (Nat.le_of_ble_eq_true rfl) (⟨rfl, rfl⟩)
set_option maxRecDepth 65536 in
set_option maxHeartbeats 40000000 in
theorem of_m16 (l : Launch) (Z : State) (a0 : Array Value) (hw : ∀ d ∈ tables_1, d.before a0 Z = true) (n0 : Nat) (h : Heap) (O : Old Z n0 h) (s_OTHER : Addr) (s_STRING : Addr) (s_INTEGER : Addr) (H : En Z s_OTHER s_STRING s_INTEGER) : Con l Z (⟨"com/example/tributary/tributary/source/rdb/Column$Kind", "of", "(I)Lcom/example/tributary/tributary/source/rdb/Column$Kind;"⟩ : MethodName) prog_30_method_4_code 1 (some (.object "com/example/tributary/tributary/source/rdb/Column$Kind")) ({ frames := 0, cells := 0, slots := 0, locals := 0 } : Room) #[(.int (-16 : Int32))] h n0 (fun v h' => v = some (.ref s_STRING) ∧ h' = h) := by
  refine Con.mk (Ls := #[.val (.int (-16 : Int32))]) (plainFor_of_name pn_0) (fun m => by first | (simp [entryFrame, mkF, argsToLocals, Value.category]; done) | rfl) (fun w C => ?_)
  replace C : Cx w l Z "com/example/tributary/tributary/source/rdb/Column$Kind" prog_30_method_4_code 1 (some (.object "com/example/tributary/tributary/source/rdb/Column$Kind")) "of" ({ frames := 0, cells := 0, slots := 0, locals := 0 } : Room) n0 := C
  obtain ⟨S_OTHER, E_OTHER, S_STRING, E_STRING, S_INTEGER, E_INTEGER⟩ := id H
  refine g_iloadN C (pc' := 1) d1_0 rfl rfl ?_
  refine g_lswHit C (pc' := 108) (a := (-16)) (o := 107) d1_1 rfl (by decide) (by decide) (by decide) rfl ?_
  refine g_getS C (pc' := 111) (wd hw 14 rfl) Via.refl d1_108 (S_STRING.ext O.2) rfl ?_
  exact g_areturn C d1_111 rfl rfl rfl rfl (Nat.le_of_ble_eq_true rfl) (Nat.le_of_ble_eq_true rfl) (⟨rfl, rfl⟩)
theorem d2_28 : decode method_2_code 28 = .ok (.iload_n 0, 1) := by decide +kernel
theorem d2_29 : decode method_2_code 29 = .ok (.bipush (-16), 2) := by decide +kernel
theorem d2_31 : decode method_2_code 31 = .ok (.if_icmp .eq 17, 3) := by decide +kernel
set_option maxRecDepth 65536 in
set_option maxHeartbeats 40000000 in
theorem ex_m16 (l : Launch) (Z : State) (a0 : Array Value) (hw : ∀ d ∈ tables_1, d.before a0 Z = true) (n0 : Nat) (h : Heap) (O : Old Z n0 h) (s_OTHER : Addr) (s_STRING : Addr) (s_INTEGER : Addr) (H : En Z s_OTHER s_STRING s_INTEGER) : Con l Z (⟨"com/example/tributary/tributary/source/rdb/KindOfPinLaw", "expected", "(I)I"⟩ : MethodName) method_2_code 1 (some .int) ({ frames := 0, cells := 0, slots := 0, locals := 0 } : Room) #[(.int (-16 : Int32))] h n0 (fun v h' => v = some (.int (0 : Int32)) ∧ h' = h) := by
  refine Con.mk (Ls := #[.val (.int (-16 : Int32))]) (plainFor_of_name pn_1) (fun m => by first | (simp [entryFrame, mkF, argsToLocals, Value.category]; done) | rfl) (fun w C => ?_)
  replace C : Cx w l Z "com/example/tributary/tributary/source/rdb/KindOfPinLaw" method_2_code 1 (some .int) "expected" ({ frames := 0, cells := 0, slots := 0, locals := 0 } : Room) n0 := C
  obtain ⟨S_OTHER, E_OTHER, S_STRING, E_STRING, S_INTEGER, E_INTEGER⟩ := id H
  refine g_iloadN C (pc' := 1) d2_0 rfl rfl ?_
  refine g_iconst C (pc' := 2) (v := (1 : Int32)) d2_1 (by decide) rfl ?_
  refine g_icN C (pc' := 5) d2_2 rfl (by decide) rfl ?_
  refine g_iloadN C (pc' := 6) d2_5 rfl rfl ?_
  refine g_bipush C (pc' := 8) (v := (12 : Int32)) d2_6 (by decide) rfl ?_
  refine g_icN C (pc' := 11) d2_8 rfl (by decide) rfl ?_
  refine g_iloadN C (pc' := 12) d2_11 rfl rfl ?_
  refine g_iconst C (pc' := 13) (v := (-1 : Int32)) d2_12 (by decide) rfl ?_
  refine g_icN C (pc' := 16) d2_13 rfl (by decide) rfl ?_
  refine g_iloadN C (pc' := 17) d2_16 rfl rfl ?_
  refine g_bipush C (pc' := 19) (v := (-15 : Int32)) d2_17 (by decide) rfl ?_
  refine g_icN C (pc' := 22) d2_19 rfl (by decide) rfl ?_
  refine g_iloadN C (pc' := 23) d2_22 rfl rfl ?_
  refine g_bipush C (pc' := 25) (v := (-9 : Int32)) d2_23 (by decide) rfl ?_
  refine g_icN C (pc' := 28) d2_25 rfl (by decide) rfl ?_
  refine g_iloadN C (pc' := 29) d2_28 rfl rfl ?_
  refine g_bipush C (pc' := 31) (v := (-16 : Int32)) d2_29 (by decide) rfl ?_
  refine g_icY C (pc' := 48) d2_31 rfl (by decide) (by decide) rfl ?_
  refine g_iconst C (pc' := 49) (v := (0 : Int32)) d2_48 (by decide) rfl ?_
  exact g_ireturn C d2_49 rfl (Nat.le_of_ble_eq_true rfl) (Nat.le_of_ble_eq_true rfl) (⟨rfl, rfl⟩)
set_option maxRecDepth 65536 in
set_option maxHeartbeats 40000000 in
theorem of_2005 (l : Launch) (Z : State) (a0 : Array Value) (hw : ∀ d ∈ tables_1, d.before a0 Z = true) (n0 : Nat) (h : Heap) (O : Old Z n0 h) (s_OTHER : Addr) (s_STRING : Addr) (s_INTEGER : Addr) (H : En Z s_OTHER s_STRING s_INTEGER) : Con l Z (⟨"com/example/tributary/tributary/source/rdb/Column$Kind", "of", "(I)Lcom/example/tributary/tributary/source/rdb/Column$Kind;"⟩ : MethodName) prog_30_method_4_code 1 (some (.object "com/example/tributary/tributary/source/rdb/Column$Kind")) ({ frames := 0, cells := 0, slots := 0, locals := 0 } : Room) #[(.int (2005 : Int32))] h n0 (fun v h' => v = some (.ref s_STRING) ∧ h' = h) := by
  refine Con.mk (Ls := #[.val (.int (2005 : Int32))]) (plainFor_of_name pn_0) (fun m => by first | (simp [entryFrame, mkF, argsToLocals, Value.category]; done) | rfl) (fun w C => ?_)
  replace C : Cx w l Z "com/example/tributary/tributary/source/rdb/Column$Kind" prog_30_method_4_code 1 (some (.object "com/example/tributary/tributary/source/rdb/Column$Kind")) "of" ({ frames := 0, cells := 0, slots := 0, locals := 0 } : Room) n0 := C
  obtain ⟨S_OTHER, E_OTHER, S_STRING, E_STRING, S_INTEGER, E_INTEGER⟩ := id H
  refine g_iloadN C (pc' := 1) d1_0 rfl rfl ?_
  refine g_lswHit C (pc' := 108) (a := 2005) (o := 107) d1_1 rfl (by decide) (by decide) (by decide) rfl ?_
  refine g_getS C (pc' := 111) (wd hw 14 rfl) Via.refl d1_108 (S_STRING.ext O.2) rfl ?_
  exact g_areturn C d1_111 rfl rfl rfl rfl (Nat.le_of_ble_eq_true rfl) (Nat.le_of_ble_eq_true rfl) (⟨rfl, rfl⟩)
theorem d2_34 : decode method_2_code 34 = .ok (.iload_n 0, 1) := by decide +kernel
theorem d2_35 : decode method_2_code 35 = .ok (.sipush 2005, 3) := by decide +kernel
theorem d2_38 : decode method_2_code 38 = .ok (.if_icmp .eq 10, 3) := by decide +kernel
set_option maxRecDepth 65536 in
set_option maxHeartbeats 40000000 in
theorem ex_2005 (l : Launch) (Z : State) (a0 : Array Value) (hw : ∀ d ∈ tables_1, d.before a0 Z = true) (n0 : Nat) (h : Heap) (O : Old Z n0 h) (s_OTHER : Addr) (s_STRING : Addr) (s_INTEGER : Addr) (H : En Z s_OTHER s_STRING s_INTEGER) : Con l Z (⟨"com/example/tributary/tributary/source/rdb/KindOfPinLaw", "expected", "(I)I"⟩ : MethodName) method_2_code 1 (some .int) ({ frames := 0, cells := 0, slots := 0, locals := 0 } : Room) #[(.int (2005 : Int32))] h n0 (fun v h' => v = some (.int (0 : Int32)) ∧ h' = h) := by
  refine Con.mk (Ls := #[.val (.int (2005 : Int32))]) (plainFor_of_name pn_1) (fun m => by first | (simp [entryFrame, mkF, argsToLocals, Value.category]; done) | rfl) (fun w C => ?_)
  replace C : Cx w l Z "com/example/tributary/tributary/source/rdb/KindOfPinLaw" method_2_code 1 (some .int) "expected" ({ frames := 0, cells := 0, slots := 0, locals := 0 } : Room) n0 := C
  obtain ⟨S_OTHER, E_OTHER, S_STRING, E_STRING, S_INTEGER, E_INTEGER⟩ := id H
  refine g_iloadN C (pc' := 1) d2_0 rfl rfl ?_
  refine g_iconst C (pc' := 2) (v := (1 : Int32)) d2_1 (by decide) rfl ?_
  refine g_icN C (pc' := 5) d2_2 rfl (by decide) rfl ?_
  refine g_iloadN C (pc' := 6) d2_5 rfl rfl ?_
  refine g_bipush C (pc' := 8) (v := (12 : Int32)) d2_6 (by decide) rfl ?_
  refine g_icN C (pc' := 11) d2_8 rfl (by decide) rfl ?_
  refine g_iloadN C (pc' := 12) d2_11 rfl rfl ?_
  refine g_iconst C (pc' := 13) (v := (-1 : Int32)) d2_12 (by decide) rfl ?_
  refine g_icN C (pc' := 16) d2_13 rfl (by decide) rfl ?_
  refine g_iloadN C (pc' := 17) d2_16 rfl rfl ?_
  refine g_bipush C (pc' := 19) (v := (-15 : Int32)) d2_17 (by decide) rfl ?_
  refine g_icN C (pc' := 22) d2_19 rfl (by decide) rfl ?_
  refine g_iloadN C (pc' := 23) d2_22 rfl rfl ?_
  refine g_bipush C (pc' := 25) (v := (-9 : Int32)) d2_23 (by decide) rfl ?_
  refine g_icN C (pc' := 28) d2_25 rfl (by decide) rfl ?_
  refine g_iloadN C (pc' := 29) d2_28 rfl rfl ?_
  refine g_bipush C (pc' := 31) (v := (-16 : Int32)) d2_29 (by decide) rfl ?_
  refine g_icN C (pc' := 34) d2_31 rfl (by decide) rfl ?_
  refine g_iloadN C (pc' := 35) d2_34 rfl rfl ?_
  refine g_sipush C (pc' := 38) (v := (2005 : Int32)) d2_35 (by decide) rfl ?_
  refine g_icY C (pc' := 48) d2_38 rfl (by decide) (by decide) rfl ?_
  refine g_iconst C (pc' := 49) (v := (0 : Int32)) d2_48 (by decide) rfl ?_
  exact g_ireturn C d2_49 rfl (Nat.le_of_ble_eq_true rfl) (Nat.le_of_ble_eq_true rfl) (⟨rfl, rfl⟩)
set_option maxRecDepth 65536 in
set_option maxHeartbeats 40000000 in
theorem of_2011 (l : Launch) (Z : State) (a0 : Array Value) (hw : ∀ d ∈ tables_1, d.before a0 Z = true) (n0 : Nat) (h : Heap) (O : Old Z n0 h) (s_OTHER : Addr) (s_STRING : Addr) (s_INTEGER : Addr) (H : En Z s_OTHER s_STRING s_INTEGER) : Con l Z (⟨"com/example/tributary/tributary/source/rdb/Column$Kind", "of", "(I)Lcom/example/tributary/tributary/source/rdb/Column$Kind;"⟩ : MethodName) prog_30_method_4_code 1 (some (.object "com/example/tributary/tributary/source/rdb/Column$Kind")) ({ frames := 0, cells := 0, slots := 0, locals := 0 } : Room) #[(.int (2011 : Int32))] h n0 (fun v h' => v = some (.ref s_STRING) ∧ h' = h) := by
  refine Con.mk (Ls := #[.val (.int (2011 : Int32))]) (plainFor_of_name pn_0) (fun m => by first | (simp [entryFrame, mkF, argsToLocals, Value.category]; done) | rfl) (fun w C => ?_)
  replace C : Cx w l Z "com/example/tributary/tributary/source/rdb/Column$Kind" prog_30_method_4_code 1 (some (.object "com/example/tributary/tributary/source/rdb/Column$Kind")) "of" ({ frames := 0, cells := 0, slots := 0, locals := 0 } : Room) n0 := C
  obtain ⟨S_OTHER, E_OTHER, S_STRING, E_STRING, S_INTEGER, E_INTEGER⟩ := id H
  refine g_iloadN C (pc' := 1) d1_0 rfl rfl ?_
  refine g_lswHit C (pc' := 108) (a := 2011) (o := 107) d1_1 rfl (by decide) (by decide) (by decide) rfl ?_
  refine g_getS C (pc' := 111) (wd hw 14 rfl) Via.refl d1_108 (S_STRING.ext O.2) rfl ?_
  exact g_areturn C d1_111 rfl rfl rfl rfl (Nat.le_of_ble_eq_true rfl) (Nat.le_of_ble_eq_true rfl) (⟨rfl, rfl⟩)
theorem d2_41 : decode method_2_code 41 = .ok (.iload_n 0, 1) := by decide +kernel
theorem d2_42 : decode method_2_code 42 = .ok (.sipush 2011, 3) := by decide +kernel
theorem d2_45 : decode method_2_code 45 = .ok (.if_icmp .ne 5, 3) := by decide +kernel
set_option maxRecDepth 65536 in
set_option maxHeartbeats 40000000 in
theorem ex_2011 (l : Launch) (Z : State) (a0 : Array Value) (hw : ∀ d ∈ tables_1, d.before a0 Z = true) (n0 : Nat) (h : Heap) (O : Old Z n0 h) (s_OTHER : Addr) (s_STRING : Addr) (s_INTEGER : Addr) (H : En Z s_OTHER s_STRING s_INTEGER) : Con l Z (⟨"com/example/tributary/tributary/source/rdb/KindOfPinLaw", "expected", "(I)I"⟩ : MethodName) method_2_code 1 (some .int) ({ frames := 0, cells := 0, slots := 0, locals := 0 } : Room) #[(.int (2011 : Int32))] h n0 (fun v h' => v = some (.int (0 : Int32)) ∧ h' = h) := by
  refine Con.mk (Ls := #[.val (.int (2011 : Int32))]) (plainFor_of_name pn_1) (fun m => by first | (simp [entryFrame, mkF, argsToLocals, Value.category]; done) | rfl) (fun w C => ?_)
  replace C : Cx w l Z "com/example/tributary/tributary/source/rdb/KindOfPinLaw" method_2_code 1 (some .int) "expected" ({ frames := 0, cells := 0, slots := 0, locals := 0 } : Room) n0 := C
  obtain ⟨S_OTHER, E_OTHER, S_STRING, E_STRING, S_INTEGER, E_INTEGER⟩ := id H
  refine g_iloadN C (pc' := 1) d2_0 rfl rfl ?_
  refine g_iconst C (pc' := 2) (v := (1 : Int32)) d2_1 (by decide) rfl ?_
  refine g_icN C (pc' := 5) d2_2 rfl (by decide) rfl ?_
  refine g_iloadN C (pc' := 6) d2_5 rfl rfl ?_
  refine g_bipush C (pc' := 8) (v := (12 : Int32)) d2_6 (by decide) rfl ?_
  refine g_icN C (pc' := 11) d2_8 rfl (by decide) rfl ?_
  refine g_iloadN C (pc' := 12) d2_11 rfl rfl ?_
  refine g_iconst C (pc' := 13) (v := (-1 : Int32)) d2_12 (by decide) rfl ?_
  refine g_icN C (pc' := 16) d2_13 rfl (by decide) rfl ?_
  refine g_iloadN C (pc' := 17) d2_16 rfl rfl ?_
  refine g_bipush C (pc' := 19) (v := (-15 : Int32)) d2_17 (by decide) rfl ?_
  refine g_icN C (pc' := 22) d2_19 rfl (by decide) rfl ?_
  refine g_iloadN C (pc' := 23) d2_22 rfl rfl ?_
  refine g_bipush C (pc' := 25) (v := (-9 : Int32)) d2_23 (by decide) rfl ?_
  refine g_icN C (pc' := 28) d2_25 rfl (by decide) rfl ?_
  refine g_iloadN C (pc' := 29) d2_28 rfl rfl ?_
  refine g_bipush C (pc' := 31) (v := (-16 : Int32)) d2_29 (by decide) rfl ?_
  refine g_icN C (pc' := 34) d2_31 rfl (by decide) rfl ?_
  refine g_iloadN C (pc' := 35) d2_34 rfl rfl ?_
  refine g_sipush C (pc' := 38) (v := (2005 : Int32)) d2_35 (by decide) rfl ?_
  refine g_icN C (pc' := 41) d2_38 rfl (by decide) rfl ?_
  refine g_iloadN C (pc' := 42) d2_41 rfl rfl ?_
  refine g_sipush C (pc' := 45) (v := (2011 : Int32)) d2_42 (by decide) rfl ?_
  refine g_icN C (pc' := 48) d2_45 rfl (by decide) rfl ?_
  refine g_iconst C (pc' := 49) (v := (0 : Int32)) d2_48 (by decide) rfl ?_
  exact g_ireturn C d2_49 rfl (Nat.le_of_ble_eq_true rfl) (Nat.le_of_ble_eq_true rfl) (⟨rfl, rfl⟩)
theorem d1_112 : decode prog_30_method_4_code 112 = .ok (.getstatic 7, 3) := by decide +kernel
theorem d1_115 : decode prog_30_method_4_code 115 = .ok (.areturn, 1) := by decide +kernel
set_option maxRecDepth 65536 in
set_option maxHeartbeats 40000000 in
theorem of_m6 (l : Launch) (Z : State) (a0 : Array Value) (hw : ∀ d ∈ tables_1, d.before a0 Z = true) (n0 : Nat) (h : Heap) (O : Old Z n0 h) (s_OTHER : Addr) (s_STRING : Addr) (s_INTEGER : Addr) (H : En Z s_OTHER s_STRING s_INTEGER) : Con l Z (⟨"com/example/tributary/tributary/source/rdb/Column$Kind", "of", "(I)Lcom/example/tributary/tributary/source/rdb/Column$Kind;"⟩ : MethodName) prog_30_method_4_code 1 (some (.object "com/example/tributary/tributary/source/rdb/Column$Kind")) ({ frames := 0, cells := 0, slots := 0, locals := 0 } : Room) #[(.int (-6 : Int32))] h n0 (fun v h' => v = some (.ref s_INTEGER) ∧ h' = h) := by
  refine Con.mk (Ls := #[.val (.int (-6 : Int32))]) (plainFor_of_name pn_0) (fun m => by first | (simp [entryFrame, mkF, argsToLocals, Value.category]; done) | rfl) (fun w C => ?_)
  replace C : Cx w l Z "com/example/tributary/tributary/source/rdb/Column$Kind" prog_30_method_4_code 1 (some (.object "com/example/tributary/tributary/source/rdb/Column$Kind")) "of" ({ frames := 0, cells := 0, slots := 0, locals := 0 } : Room) n0 := C
  obtain ⟨S_OTHER, E_OTHER, S_STRING, E_STRING, S_INTEGER, E_INTEGER⟩ := id H
  refine g_iloadN C (pc' := 1) d1_0 rfl rfl ?_
  refine g_lswHit C (pc' := 112) (a := (-6)) (o := 111) d1_1 rfl (by decide) (by decide) (by decide) rfl ?_
  refine g_getS C (pc' := 115) (wd hw 17 rfl) Via.refl d1_112 (S_INTEGER.ext O.2) rfl ?_
  exact g_areturn C d1_115 rfl rfl rfl rfl (Nat.le_of_ble_eq_true rfl) (Nat.le_of_ble_eq_true rfl) (⟨rfl, rfl⟩)
theorem d2_50 : decode method_2_code 50 = .ok (.iload_n 0, 1) := by decide +kernel
theorem d2_51 : decode method_2_code 51 = .ok (.bipush (-6), 2) := by decide +kernel
theorem d2_53 : decode method_2_code 53 = .ok (.if_icmp .eq 19, 3) := by decide +kernel
theorem d2_72 : decode method_2_code 72 = .ok (.iconst 1, 1) := by decide +kernel
theorem d2_73 : decode method_2_code 73 = .ok (.ireturn, 1) := by decide +kernel
set_option maxRecDepth 65536 in
set_option maxHeartbeats 40000000 in
theorem ex_m6 (l : Launch) (Z : State) (a0 : Array Value) (hw : ∀ d ∈ tables_1, d.before a0 Z = true) (n0 : Nat) (h : Heap) (O : Old Z n0 h) (s_OTHER : Addr) (s_STRING : Addr) (s_INTEGER : Addr) (H : En Z s_OTHER s_STRING s_INTEGER) : Con l Z (⟨"com/example/tributary/tributary/source/rdb/KindOfPinLaw", "expected", "(I)I"⟩ : MethodName) method_2_code 1 (some .int) ({ frames := 0, cells := 0, slots := 0, locals := 0 } : Room) #[(.int (-6 : Int32))] h n0 (fun v h' => v = some (.int (1 : Int32)) ∧ h' = h) := by
  refine Con.mk (Ls := #[.val (.int (-6 : Int32))]) (plainFor_of_name pn_1) (fun m => by first | (simp [entryFrame, mkF, argsToLocals, Value.category]; done) | rfl) (fun w C => ?_)
  replace C : Cx w l Z "com/example/tributary/tributary/source/rdb/KindOfPinLaw" method_2_code 1 (some .int) "expected" ({ frames := 0, cells := 0, slots := 0, locals := 0 } : Room) n0 := C
  obtain ⟨S_OTHER, E_OTHER, S_STRING, E_STRING, S_INTEGER, E_INTEGER⟩ := id H
  refine g_iloadN C (pc' := 1) d2_0 rfl rfl ?_
  refine g_iconst C (pc' := 2) (v := (1 : Int32)) d2_1 (by decide) rfl ?_
  refine g_icN C (pc' := 5) d2_2 rfl (by decide) rfl ?_
  refine g_iloadN C (pc' := 6) d2_5 rfl rfl ?_
  refine g_bipush C (pc' := 8) (v := (12 : Int32)) d2_6 (by decide) rfl ?_
  refine g_icN C (pc' := 11) d2_8 rfl (by decide) rfl ?_
  refine g_iloadN C (pc' := 12) d2_11 rfl rfl ?_
  refine g_iconst C (pc' := 13) (v := (-1 : Int32)) d2_12 (by decide) rfl ?_
  refine g_icN C (pc' := 16) d2_13 rfl (by decide) rfl ?_
  refine g_iloadN C (pc' := 17) d2_16 rfl rfl ?_
  refine g_bipush C (pc' := 19) (v := (-15 : Int32)) d2_17 (by decide) rfl ?_
  refine g_icN C (pc' := 22) d2_19 rfl (by decide) rfl ?_
  refine g_iloadN C (pc' := 23) d2_22 rfl rfl ?_
  refine g_bipush C (pc' := 25) (v := (-9 : Int32)) d2_23 (by decide) rfl ?_
  refine g_icN C (pc' := 28) d2_25 rfl (by decide) rfl ?_
  refine g_iloadN C (pc' := 29) d2_28 rfl rfl ?_
  refine g_bipush C (pc' := 31) (v := (-16 : Int32)) d2_29 (by decide) rfl ?_
  refine g_icN C (pc' := 34) d2_31 rfl (by decide) rfl ?_
  refine g_iloadN C (pc' := 35) d2_34 rfl rfl ?_
  refine g_sipush C (pc' := 38) (v := (2005 : Int32)) d2_35 (by decide) rfl ?_
  refine g_icN C (pc' := 41) d2_38 rfl (by decide) rfl ?_
  refine g_iloadN C (pc' := 42) d2_41 rfl rfl ?_
  refine g_sipush C (pc' := 45) (v := (2011 : Int32)) d2_42 (by decide) rfl ?_
  refine g_icY C (pc' := 50) d2_45 rfl (by decide) (by decide) rfl ?_
  refine g_iloadN C (pc' := 51) d2_50 rfl rfl ?_
  refine g_bipush C (pc' := 53) (v := (-6 : Int32)) d2_51 (by decide) rfl ?_
  refine g_icY C (pc' := 72) d2_53 rfl (by decide) (by decide) rfl ?_
  refine g_iconst C (pc' := 73) (v := (1 : Int32)) d2_72 (by decide) rfl ?_
  exact g_ireturn C d2_73 rfl (Nat.le_of_ble_eq_true rfl) (Nat.le_of_ble_eq_true rfl) (⟨rfl, rfl⟩)
set_option maxRecDepth 65536 in
set_option maxHeartbeats 40000000 in
theorem of_5 (l : Launch) (Z : State) (a0 : Array Value) (hw : ∀ d ∈ tables_1, d.before a0 Z = true) (n0 : Nat) (h : Heap) (O : Old Z n0 h) (s_OTHER : Addr) (s_STRING : Addr) (s_INTEGER : Addr) (H : En Z s_OTHER s_STRING s_INTEGER) : Con l Z (⟨"com/example/tributary/tributary/source/rdb/Column$Kind", "of", "(I)Lcom/example/tributary/tributary/source/rdb/Column$Kind;"⟩ : MethodName) prog_30_method_4_code 1 (some (.object "com/example/tributary/tributary/source/rdb/Column$Kind")) ({ frames := 0, cells := 0, slots := 0, locals := 0 } : Room) #[(.int (5 : Int32))] h n0 (fun v h' => v = some (.ref s_INTEGER) ∧ h' = h) := by
  refine Con.mk (Ls := #[.val (.int (5 : Int32))]) (plainFor_of_name pn_0) (fun m => by first | (simp [entryFrame, mkF, argsToLocals, Value.category]; done) | rfl) (fun w C => ?_)
  replace C : Cx w l Z "com/example/tributary/tributary/source/rdb/Column$Kind" prog_30_method_4_code 1 (some (.object "com/example/tributary/tributary/source/rdb/Column$Kind")) "of" ({ frames := 0, cells := 0, slots := 0, locals := 0 } : Room) n0 := C
  obtain ⟨S_OTHER, E_OTHER, S_STRING, E_STRING, S_INTEGER, E_INTEGER⟩ := id H
  refine g_iloadN C (pc' := 1) d1_0 rfl rfl ?_
  refine g_lswHit C (pc' := 112) (a := 5) (o := 111) d1_1 rfl (by decide) (by decide) (by decide) rfl ?_
  refine g_getS C (pc' := 115) (wd hw 17 rfl) Via.refl d1_112 (S_INTEGER.ext O.2) rfl ?_
  exact g_areturn C d1_115 rfl rfl rfl rfl (Nat.le_of_ble_eq_true rfl) (Nat.le_of_ble_eq_true rfl) (⟨rfl, rfl⟩)
theorem d2_56 : decode method_2_code 56 = .ok (.iload_n 0, 1) := by decide +kernel
theorem d2_57 : decode method_2_code 57 = .ok (.iconst 5, 1) := by decide +kernel
theorem d2_58 : decode method_2_code 58 = .ok (.if_icmp .eq 14, 3) := by decide +kernel
set_option maxRecDepth 65536 in
set_option maxHeartbeats 40000000 in
theorem ex_5 (l : Launch) (Z : State) (a0 : Array Value) (hw : ∀ d ∈ tables_1, d.before a0 Z = true) (n0 : Nat) (h : Heap) (O : Old Z n0 h) (s_OTHER : Addr) (s_STRING : Addr) (s_INTEGER : Addr) (H : En Z s_OTHER s_STRING s_INTEGER) : Con l Z (⟨"com/example/tributary/tributary/source/rdb/KindOfPinLaw", "expected", "(I)I"⟩ : MethodName) method_2_code 1 (some .int) ({ frames := 0, cells := 0, slots := 0, locals := 0 } : Room) #[(.int (5 : Int32))] h n0 (fun v h' => v = some (.int (1 : Int32)) ∧ h' = h) := by
  refine Con.mk (Ls := #[.val (.int (5 : Int32))]) (plainFor_of_name pn_1) (fun m => by first | (simp [entryFrame, mkF, argsToLocals, Value.category]; done) | rfl) (fun w C => ?_)
  replace C : Cx w l Z "com/example/tributary/tributary/source/rdb/KindOfPinLaw" method_2_code 1 (some .int) "expected" ({ frames := 0, cells := 0, slots := 0, locals := 0 } : Room) n0 := C
  obtain ⟨S_OTHER, E_OTHER, S_STRING, E_STRING, S_INTEGER, E_INTEGER⟩ := id H
  refine g_iloadN C (pc' := 1) d2_0 rfl rfl ?_
  refine g_iconst C (pc' := 2) (v := (1 : Int32)) d2_1 (by decide) rfl ?_
  refine g_icN C (pc' := 5) d2_2 rfl (by decide) rfl ?_
  refine g_iloadN C (pc' := 6) d2_5 rfl rfl ?_
  refine g_bipush C (pc' := 8) (v := (12 : Int32)) d2_6 (by decide) rfl ?_
  refine g_icN C (pc' := 11) d2_8 rfl (by decide) rfl ?_
  refine g_iloadN C (pc' := 12) d2_11 rfl rfl ?_
  refine g_iconst C (pc' := 13) (v := (-1 : Int32)) d2_12 (by decide) rfl ?_
  refine g_icN C (pc' := 16) d2_13 rfl (by decide) rfl ?_
  refine g_iloadN C (pc' := 17) d2_16 rfl rfl ?_
  refine g_bipush C (pc' := 19) (v := (-15 : Int32)) d2_17 (by decide) rfl ?_
  refine g_icN C (pc' := 22) d2_19 rfl (by decide) rfl ?_
  refine g_iloadN C (pc' := 23) d2_22 rfl rfl ?_
  refine g_bipush C (pc' := 25) (v := (-9 : Int32)) d2_23 (by decide) rfl ?_
  refine g_icN C (pc' := 28) d2_25 rfl (by decide) rfl ?_
  refine g_iloadN C (pc' := 29) d2_28 rfl rfl ?_
  refine g_bipush C (pc' := 31) (v := (-16 : Int32)) d2_29 (by decide) rfl ?_
  refine g_icN C (pc' := 34) d2_31 rfl (by decide) rfl ?_
  refine g_iloadN C (pc' := 35) d2_34 rfl rfl ?_
  refine g_sipush C (pc' := 38) (v := (2005 : Int32)) d2_35 (by decide) rfl ?_
  refine g_icN C (pc' := 41) d2_38 rfl (by decide) rfl ?_
  refine g_iloadN C (pc' := 42) d2_41 rfl rfl ?_
  refine g_sipush C (pc' := 45) (v := (2011 : Int32)) d2_42 (by decide) rfl ?_
  refine g_icY C (pc' := 50) d2_45 rfl (by decide) (by decide) rfl ?_
  refine g_iloadN C (pc' := 51) d2_50 rfl rfl ?_
  refine g_bipush C (pc' := 53) (v := (-6 : Int32)) d2_51 (by decide) rfl ?_
  refine g_icN C (pc' := 56) d2_53 rfl (by decide) rfl ?_
  refine g_iloadN C (pc' := 57) d2_56 rfl rfl ?_
  refine g_iconst C (pc' := 58) (v := (5 : Int32)) d2_57 (by decide) rfl ?_
  refine g_icY C (pc' := 72) d2_58 rfl (by decide) (by decide) rfl ?_
  refine g_iconst C (pc' := 73) (v := (1 : Int32)) d2_72 (by decide) rfl ?_
  exact g_ireturn C d2_73 rfl (Nat.le_of_ble_eq_true rfl) (Nat.le_of_ble_eq_true rfl) (⟨rfl, rfl⟩)
set_option maxRecDepth 65536 in
set_option maxHeartbeats 40000000 in
theorem of_4 (l : Launch) (Z : State) (a0 : Array Value) (hw : ∀ d ∈ tables_1, d.before a0 Z = true) (n0 : Nat) (h : Heap) (O : Old Z n0 h) (s_OTHER : Addr) (s_STRING : Addr) (s_INTEGER : Addr) (H : En Z s_OTHER s_STRING s_INTEGER) : Con l Z (⟨"com/example/tributary/tributary/source/rdb/Column$Kind", "of", "(I)Lcom/example/tributary/tributary/source/rdb/Column$Kind;"⟩ : MethodName) prog_30_method_4_code 1 (some (.object "com/example/tributary/tributary/source/rdb/Column$Kind")) ({ frames := 0, cells := 0, slots := 0, locals := 0 } : Room) #[(.int (4 : Int32))] h n0 (fun v h' => v = some (.ref s_INTEGER) ∧ h' = h) := by
  refine Con.mk (Ls := #[.val (.int (4 : Int32))]) (plainFor_of_name pn_0) (fun m => by first | (simp [entryFrame, mkF, argsToLocals, Value.category]; done) | rfl) (fun w C => ?_)
  replace C : Cx w l Z "com/example/tributary/tributary/source/rdb/Column$Kind" prog_30_method_4_code 1 (some (.object "com/example/tributary/tributary/source/rdb/Column$Kind")) "of" ({ frames := 0, cells := 0, slots := 0, locals := 0 } : Room) n0 := C
  obtain ⟨S_OTHER, E_OTHER, S_STRING, E_STRING, S_INTEGER, E_INTEGER⟩ := id H
  refine g_iloadN C (pc' := 1) d1_0 rfl rfl ?_
  refine g_lswHit C (pc' := 112) (a := 4) (o := 111) d1_1 rfl (by decide) (by decide) (by decide) rfl ?_
  refine g_getS C (pc' := 115) (wd hw 17 rfl) Via.refl d1_112 (S_INTEGER.ext O.2) rfl ?_
  exact g_areturn C d1_115 rfl rfl rfl rfl (Nat.le_of_ble_eq_true rfl) (Nat.le_of_ble_eq_true rfl) (⟨rfl, rfl⟩)
theorem d2_61 : decode method_2_code 61 = .ok (.iload_n 0, 1) := by decide +kernel
theorem d2_62 : decode method_2_code 62 = .ok (.iconst 4, 1) := by decide +kernel
theorem d2_63 : decode method_2_code 63 = .ok (.if_icmp .eq 9, 3) := by decide +kernel
set_option maxRecDepth 65536 in
set_option maxHeartbeats 40000000 in
theorem ex_4 (l : Launch) (Z : State) (a0 : Array Value) (hw : ∀ d ∈ tables_1, d.before a0 Z = true) (n0 : Nat) (h : Heap) (O : Old Z n0 h) (s_OTHER : Addr) (s_STRING : Addr) (s_INTEGER : Addr) (H : En Z s_OTHER s_STRING s_INTEGER) : Con l Z (⟨"com/example/tributary/tributary/source/rdb/KindOfPinLaw", "expected", "(I)I"⟩ : MethodName) method_2_code 1 (some .int) ({ frames := 0, cells := 0, slots := 0, locals := 0 } : Room) #[(.int (4 : Int32))] h n0 (fun v h' => v = some (.int (1 : Int32)) ∧ h' = h) := by
  refine Con.mk (Ls := #[.val (.int (4 : Int32))]) (plainFor_of_name pn_1) (fun m => by first | (simp [entryFrame, mkF, argsToLocals, Value.category]; done) | rfl) (fun w C => ?_)
  replace C : Cx w l Z "com/example/tributary/tributary/source/rdb/KindOfPinLaw" method_2_code 1 (some .int) "expected" ({ frames := 0, cells := 0, slots := 0, locals := 0 } : Room) n0 := C
  obtain ⟨S_OTHER, E_OTHER, S_STRING, E_STRING, S_INTEGER, E_INTEGER⟩ := id H
  refine g_iloadN C (pc' := 1) d2_0 rfl rfl ?_
  refine g_iconst C (pc' := 2) (v := (1 : Int32)) d2_1 (by decide) rfl ?_
  refine g_icN C (pc' := 5) d2_2 rfl (by decide) rfl ?_
  refine g_iloadN C (pc' := 6) d2_5 rfl rfl ?_
  refine g_bipush C (pc' := 8) (v := (12 : Int32)) d2_6 (by decide) rfl ?_
  refine g_icN C (pc' := 11) d2_8 rfl (by decide) rfl ?_
  refine g_iloadN C (pc' := 12) d2_11 rfl rfl ?_
  refine g_iconst C (pc' := 13) (v := (-1 : Int32)) d2_12 (by decide) rfl ?_
  refine g_icN C (pc' := 16) d2_13 rfl (by decide) rfl ?_
  refine g_iloadN C (pc' := 17) d2_16 rfl rfl ?_
  refine g_bipush C (pc' := 19) (v := (-15 : Int32)) d2_17 (by decide) rfl ?_
  refine g_icN C (pc' := 22) d2_19 rfl (by decide) rfl ?_
  refine g_iloadN C (pc' := 23) d2_22 rfl rfl ?_
  refine g_bipush C (pc' := 25) (v := (-9 : Int32)) d2_23 (by decide) rfl ?_
  refine g_icN C (pc' := 28) d2_25 rfl (by decide) rfl ?_
  refine g_iloadN C (pc' := 29) d2_28 rfl rfl ?_
  refine g_bipush C (pc' := 31) (v := (-16 : Int32)) d2_29 (by decide) rfl ?_
  refine g_icN C (pc' := 34) d2_31 rfl (by decide) rfl ?_
  refine g_iloadN C (pc' := 35) d2_34 rfl rfl ?_
  refine g_sipush C (pc' := 38) (v := (2005 : Int32)) d2_35 (by decide) rfl ?_
  refine g_icN C (pc' := 41) d2_38 rfl (by decide) rfl ?_
  refine g_iloadN C (pc' := 42) d2_41 rfl rfl ?_
  refine g_sipush C (pc' := 45) (v := (2011 : Int32)) d2_42 (by decide) rfl ?_
  refine g_icY C (pc' := 50) d2_45 rfl (by decide) (by decide) rfl ?_
  refine g_iloadN C (pc' := 51) d2_50 rfl rfl ?_
  refine g_bipush C (pc' := 53) (v := (-6 : Int32)) d2_51 (by decide) rfl ?_
  refine g_icN C (pc' := 56) d2_53 rfl (by decide) rfl ?_
  refine g_iloadN C (pc' := 57) d2_56 rfl rfl ?_
  refine g_iconst C (pc' := 58) (v := (5 : Int32)) d2_57 (by decide) rfl ?_
  refine g_icN C (pc' := 61) d2_58 rfl (by decide) rfl ?_
  refine g_iloadN C (pc' := 62) d2_61 rfl rfl ?_
  refine g_iconst C (pc' := 63) (v := (4 : Int32)) d2_62 (by decide) rfl ?_
  refine g_icY C (pc' := 72) d2_63 rfl (by decide) (by decide) rfl ?_
  refine g_iconst C (pc' := 73) (v := (1 : Int32)) d2_72 (by decide) rfl ?_
  exact g_ireturn C d2_73 rfl (Nat.le_of_ble_eq_true rfl) (Nat.le_of_ble_eq_true rfl) (⟨rfl, rfl⟩)
set_option maxRecDepth 65536 in
set_option maxHeartbeats 40000000 in
theorem of_m5 (l : Launch) (Z : State) (a0 : Array Value) (hw : ∀ d ∈ tables_1, d.before a0 Z = true) (n0 : Nat) (h : Heap) (O : Old Z n0 h) (s_OTHER : Addr) (s_STRING : Addr) (s_INTEGER : Addr) (H : En Z s_OTHER s_STRING s_INTEGER) : Con l Z (⟨"com/example/tributary/tributary/source/rdb/Column$Kind", "of", "(I)Lcom/example/tributary/tributary/source/rdb/Column$Kind;"⟩ : MethodName) prog_30_method_4_code 1 (some (.object "com/example/tributary/tributary/source/rdb/Column$Kind")) ({ frames := 0, cells := 0, slots := 0, locals := 0 } : Room) #[(.int (-5 : Int32))] h n0 (fun v h' => v = some (.ref s_INTEGER) ∧ h' = h) := by
  refine Con.mk (Ls := #[.val (.int (-5 : Int32))]) (plainFor_of_name pn_0) (fun m => by first | (simp [entryFrame, mkF, argsToLocals, Value.category]; done) | rfl) (fun w C => ?_)
  replace C : Cx w l Z "com/example/tributary/tributary/source/rdb/Column$Kind" prog_30_method_4_code 1 (some (.object "com/example/tributary/tributary/source/rdb/Column$Kind")) "of" ({ frames := 0, cells := 0, slots := 0, locals := 0 } : Room) n0 := C
  obtain ⟨S_OTHER, E_OTHER, S_STRING, E_STRING, S_INTEGER, E_INTEGER⟩ := id H
  refine g_iloadN C (pc' := 1) d1_0 rfl rfl ?_
  refine g_lswHit C (pc' := 112) (a := (-5)) (o := 111) d1_1 rfl (by decide) (by decide) (by decide) rfl ?_
  refine g_getS C (pc' := 115) (wd hw 17 rfl) Via.refl d1_112 (S_INTEGER.ext O.2) rfl ?_
  exact g_areturn C d1_115 rfl rfl rfl rfl (Nat.le_of_ble_eq_true rfl) (Nat.le_of_ble_eq_true rfl) (⟨rfl, rfl⟩)
theorem d2_66 : decode method_2_code 66 = .ok (.iload_n 0, 1) := by decide +kernel
theorem d2_67 : decode method_2_code 67 = .ok (.bipush (-5), 2) := by decide +kernel
theorem d2_69 : decode method_2_code 69 = .ok (.if_icmp .ne 5, 3) := by decide +kernel
set_option maxRecDepth 65536 in
set_option maxHeartbeats 40000000 in
theorem ex_m5 (l : Launch) (Z : State) (a0 : Array Value) (hw : ∀ d ∈ tables_1, d.before a0 Z = true) (n0 : Nat) (h : Heap) (O : Old Z n0 h) (s_OTHER : Addr) (s_STRING : Addr) (s_INTEGER : Addr) (H : En Z s_OTHER s_STRING s_INTEGER) : Con l Z (⟨"com/example/tributary/tributary/source/rdb/KindOfPinLaw", "expected", "(I)I"⟩ : MethodName) method_2_code 1 (some .int) ({ frames := 0, cells := 0, slots := 0, locals := 0 } : Room) #[(.int (-5 : Int32))] h n0 (fun v h' => v = some (.int (1 : Int32)) ∧ h' = h) := by
  refine Con.mk (Ls := #[.val (.int (-5 : Int32))]) (plainFor_of_name pn_1) (fun m => by first | (simp [entryFrame, mkF, argsToLocals, Value.category]; done) | rfl) (fun w C => ?_)
  replace C : Cx w l Z "com/example/tributary/tributary/source/rdb/KindOfPinLaw" method_2_code 1 (some .int) "expected" ({ frames := 0, cells := 0, slots := 0, locals := 0 } : Room) n0 := C
  obtain ⟨S_OTHER, E_OTHER, S_STRING, E_STRING, S_INTEGER, E_INTEGER⟩ := id H
  refine g_iloadN C (pc' := 1) d2_0 rfl rfl ?_
  refine g_iconst C (pc' := 2) (v := (1 : Int32)) d2_1 (by decide) rfl ?_
  refine g_icN C (pc' := 5) d2_2 rfl (by decide) rfl ?_
  refine g_iloadN C (pc' := 6) d2_5 rfl rfl ?_
  refine g_bipush C (pc' := 8) (v := (12 : Int32)) d2_6 (by decide) rfl ?_
  refine g_icN C (pc' := 11) d2_8 rfl (by decide) rfl ?_
  refine g_iloadN C (pc' := 12) d2_11 rfl rfl ?_
  refine g_iconst C (pc' := 13) (v := (-1 : Int32)) d2_12 (by decide) rfl ?_
  refine g_icN C (pc' := 16) d2_13 rfl (by decide) rfl ?_
  refine g_iloadN C (pc' := 17) d2_16 rfl rfl ?_
  refine g_bipush C (pc' := 19) (v := (-15 : Int32)) d2_17 (by decide) rfl ?_
  refine g_icN C (pc' := 22) d2_19 rfl (by decide) rfl ?_
  refine g_iloadN C (pc' := 23) d2_22 rfl rfl ?_
  refine g_bipush C (pc' := 25) (v := (-9 : Int32)) d2_23 (by decide) rfl ?_
  refine g_icN C (pc' := 28) d2_25 rfl (by decide) rfl ?_
  refine g_iloadN C (pc' := 29) d2_28 rfl rfl ?_
  refine g_bipush C (pc' := 31) (v := (-16 : Int32)) d2_29 (by decide) rfl ?_
  refine g_icN C (pc' := 34) d2_31 rfl (by decide) rfl ?_
  refine g_iloadN C (pc' := 35) d2_34 rfl rfl ?_
  refine g_sipush C (pc' := 38) (v := (2005 : Int32)) d2_35 (by decide) rfl ?_
  refine g_icN C (pc' := 41) d2_38 rfl (by decide) rfl ?_
  refine g_iloadN C (pc' := 42) d2_41 rfl rfl ?_
  refine g_sipush C (pc' := 45) (v := (2011 : Int32)) d2_42 (by decide) rfl ?_
  refine g_icY C (pc' := 50) d2_45 rfl (by decide) (by decide) rfl ?_
  refine g_iloadN C (pc' := 51) d2_50 rfl rfl ?_
  refine g_bipush C (pc' := 53) (v := (-6 : Int32)) d2_51 (by decide) rfl ?_
  refine g_icN C (pc' := 56) d2_53 rfl (by decide) rfl ?_
  refine g_iloadN C (pc' := 57) d2_56 rfl rfl ?_
  refine g_iconst C (pc' := 58) (v := (5 : Int32)) d2_57 (by decide) rfl ?_
  refine g_icN C (pc' := 61) d2_58 rfl (by decide) rfl ?_
  refine g_iloadN C (pc' := 62) d2_61 rfl rfl ?_
  refine g_iconst C (pc' := 63) (v := (4 : Int32)) d2_62 (by decide) rfl ?_
  refine g_icN C (pc' := 66) d2_63 rfl (by decide) rfl ?_
  refine g_iloadN C (pc' := 67) d2_66 rfl rfl ?_
  refine g_bipush C (pc' := 69) (v := (-5 : Int32)) d2_67 (by decide) rfl ?_
  refine g_icN C (pc' := 72) d2_69 rfl (by decide) rfl ?_
  refine g_iconst C (pc' := 73) (v := (1 : Int32)) d2_72 (by decide) rfl ?_
  exact g_ireturn C d2_73 rfl (Nat.le_of_ble_eq_true rfl) (Nat.le_of_ble_eq_true rfl) (⟨rfl, rfl⟩)
theorem d1_116 : decode prog_30_method_4_code 116 = .ok (.getstatic 10, 3) := by decide +kernel
theorem d1_119 : decode prog_30_method_4_code 119 = .ok (.areturn, 1) := by decide +kernel
set_option maxRecDepth 65536 in
set_option maxHeartbeats 40000000 in
theorem of_other (l : Launch) (Z : State) (a0 : Array Value) (hw : ∀ d ∈ tables_1, d.before a0 Z = true) (n0 : Nat) (h : Heap) (O : Old Z n0 h) (s_OTHER : Addr) (s_STRING : Addr) (s_INTEGER : Addr) (H : En Z s_OTHER s_STRING s_INTEGER) (t : Int32) (hno : ¬ t = (1 : Int32) ∧ ¬ t = (12 : Int32) ∧ ¬ t = (-1 : Int32) ∧ ¬ t = (-15 : Int32) ∧ ¬ t = (-9 : Int32) ∧ ¬ t = (-16 : Int32) ∧ ¬ t = (2005 : Int32) ∧ ¬ t = (2011 : Int32) ∧ ¬ t = (-6 : Int32) ∧ ¬ t = (5 : Int32) ∧ ¬ t = (4 : Int32) ∧ ¬ t = (-5 : Int32)) : Con l Z (⟨"com/example/tributary/tributary/source/rdb/Column$Kind", "of", "(I)Lcom/example/tributary/tributary/source/rdb/Column$Kind;"⟩ : MethodName) prog_30_method_4_code 1 (some (.object "com/example/tributary/tributary/source/rdb/Column$Kind")) ({ frames := 0, cells := 0, slots := 0, locals := 0 } : Room) #[(.int t)] h n0 (fun v h' => v = some (.ref s_OTHER) ∧ h' = h) := by
  refine Con.mk (Ls := #[.val (.int t)]) (plainFor_of_name pn_0) (fun m => by first | (simp [entryFrame, mkF, argsToLocals, Value.category]; done) | rfl) (fun w C => ?_)
  replace C : Cx w l Z "com/example/tributary/tributary/source/rdb/Column$Kind" prog_30_method_4_code 1 (some (.object "com/example/tributary/tributary/source/rdb/Column$Kind")) "of" ({ frames := 0, cells := 0, slots := 0, locals := 0 } : Room) n0 := C
  obtain ⟨S_OTHER, E_OTHER, S_STRING, E_STRING, S_INTEGER, E_INTEGER⟩ := id H
  obtain ⟨c0, c1, c2, c3, c4, c5, c6, c7, c8, c9, c10, c11⟩ := hno
  have hm : ∀ p ∈ ([(-16, 107), (-15, 107), (-9, 107), (-6, 111), (-5, 111), (-1, 107), (1, 107), (4, 111), (5, 111), (12, 107), (2005, 107), (2011, 107)] : List (Int × Int)), p.1 ≠ t.toInt := by
    intro p hp
    simp only [List.mem_cons, List.not_mem_nil, or_false] at hp
    rcases hp with rfl | rfl | rfl | rfl | rfl | rfl | rfl | rfl | rfl | rfl | rfl | rfl
    · exact fun q => c5 (Int32.toInt_inj.mp (q.symm.trans (by decide)))
    · exact fun q => c3 (Int32.toInt_inj.mp (q.symm.trans (by decide)))
    · exact fun q => c4 (Int32.toInt_inj.mp (q.symm.trans (by decide)))
    · exact fun q => c8 (Int32.toInt_inj.mp (q.symm.trans (by decide)))
    · exact fun q => c11 (Int32.toInt_inj.mp (q.symm.trans (by decide)))
    · exact fun q => c2 (Int32.toInt_inj.mp (q.symm.trans (by decide)))
    · exact fun q => c0 (Int32.toInt_inj.mp (q.symm.trans (by decide)))
    · exact fun q => c10 (Int32.toInt_inj.mp (q.symm.trans (by decide)))
    · exact fun q => c9 (Int32.toInt_inj.mp (q.symm.trans (by decide)))
    · exact fun q => c1 (Int32.toInt_inj.mp (q.symm.trans (by decide)))
    · exact fun q => c6 (Int32.toInt_inj.mp (q.symm.trans (by decide)))
    · exact fun q => c7 (Int32.toInt_inj.mp (q.symm.trans (by decide)))
  refine g_iloadN C (pc' := 1) d1_0 rfl rfl ?_
  refine g_lswMiss C (pc' := 116) d1_1 rfl (by decide) (find_miss hm) (by decide) rfl ?_
  refine g_getS C (pc' := 119) (wd hw 7 rfl) Via.refl d1_116 (S_OTHER.ext O.2) rfl ?_
  exact g_areturn C d1_119 rfl rfl rfl rfl (Nat.le_of_ble_eq_true rfl) (Nat.le_of_ble_eq_true rfl) (⟨rfl, rfl⟩)
theorem d2_74 : decode method_2_code 74 = .ok (.iconst 2, 1) := by decide +kernel
theorem d2_75 : decode method_2_code 75 = .ok (.ireturn, 1) := by decide +kernel
set_option maxRecDepth 65536 in
set_option maxHeartbeats 40000000 in
theorem ex_other (l : Launch) (Z : State) (a0 : Array Value) (hw : ∀ d ∈ tables_1, d.before a0 Z = true) (n0 : Nat) (h : Heap) (O : Old Z n0 h) (s_OTHER : Addr) (s_STRING : Addr) (s_INTEGER : Addr) (H : En Z s_OTHER s_STRING s_INTEGER) (t : Int32) (hno : ¬ t = (1 : Int32) ∧ ¬ t = (12 : Int32) ∧ ¬ t = (-1 : Int32) ∧ ¬ t = (-15 : Int32) ∧ ¬ t = (-9 : Int32) ∧ ¬ t = (-16 : Int32) ∧ ¬ t = (2005 : Int32) ∧ ¬ t = (2011 : Int32) ∧ ¬ t = (-6 : Int32) ∧ ¬ t = (5 : Int32) ∧ ¬ t = (4 : Int32) ∧ ¬ t = (-5 : Int32)) : Con l Z (⟨"com/example/tributary/tributary/source/rdb/KindOfPinLaw", "expected", "(I)I"⟩ : MethodName) method_2_code 1 (some .int) ({ frames := 0, cells := 0, slots := 0, locals := 0 } : Room) #[(.int t)] h n0 (fun v h' => v = some (.int (2 : Int32)) ∧ h' = h) := by
  refine Con.mk (Ls := #[.val (.int t)]) (plainFor_of_name pn_1) (fun m => by first | (simp [entryFrame, mkF, argsToLocals, Value.category]; done) | rfl) (fun w C => ?_)
  replace C : Cx w l Z "com/example/tributary/tributary/source/rdb/KindOfPinLaw" method_2_code 1 (some .int) "expected" ({ frames := 0, cells := 0, slots := 0, locals := 0 } : Room) n0 := C
  obtain ⟨S_OTHER, E_OTHER, S_STRING, E_STRING, S_INTEGER, E_INTEGER⟩ := id H
  obtain ⟨c0, c1, c2, c3, c4, c5, c6, c7, c8, c9, c10, c11⟩ := hno
  refine g_iloadN C (pc' := 1) d2_0 rfl rfl ?_
  refine g_iconst C (pc' := 2) (v := (1 : Int32)) d2_1 (by decide) rfl ?_
  refine g_icN C (pc' := 5) d2_2 rfl (says_f (cd := .eq) (c0)) rfl ?_
  refine g_iloadN C (pc' := 6) d2_5 rfl rfl ?_
  refine g_bipush C (pc' := 8) (v := (12 : Int32)) d2_6 (by decide) rfl ?_
  refine g_icN C (pc' := 11) d2_8 rfl (says_f (cd := .eq) (c1)) rfl ?_
  refine g_iloadN C (pc' := 12) d2_11 rfl rfl ?_
  refine g_iconst C (pc' := 13) (v := (-1 : Int32)) d2_12 (by decide) rfl ?_
  refine g_icN C (pc' := 16) d2_13 rfl (says_f (cd := .eq) (c2)) rfl ?_
  refine g_iloadN C (pc' := 17) d2_16 rfl rfl ?_
  refine g_bipush C (pc' := 19) (v := (-15 : Int32)) d2_17 (by decide) rfl ?_
  refine g_icN C (pc' := 22) d2_19 rfl (says_f (cd := .eq) (c3)) rfl ?_
  refine g_iloadN C (pc' := 23) d2_22 rfl rfl ?_
  refine g_bipush C (pc' := 25) (v := (-9 : Int32)) d2_23 (by decide) rfl ?_
  refine g_icN C (pc' := 28) d2_25 rfl (says_f (cd := .eq) (c4)) rfl ?_
  refine g_iloadN C (pc' := 29) d2_28 rfl rfl ?_
  refine g_bipush C (pc' := 31) (v := (-16 : Int32)) d2_29 (by decide) rfl ?_
  refine g_icN C (pc' := 34) d2_31 rfl (says_f (cd := .eq) (c5)) rfl ?_
  refine g_iloadN C (pc' := 35) d2_34 rfl rfl ?_
  refine g_sipush C (pc' := 38) (v := (2005 : Int32)) d2_35 (by decide) rfl ?_
  refine g_icN C (pc' := 41) d2_38 rfl (says_f (cd := .eq) (c6)) rfl ?_
  refine g_iloadN C (pc' := 42) d2_41 rfl rfl ?_
  refine g_sipush C (pc' := 45) (v := (2011 : Int32)) d2_42 (by decide) rfl ?_
  refine g_icY C (pc' := 50) d2_45 rfl (says_t (cd := .ne) (c7)) (by decide) rfl ?_
  refine g_iloadN C (pc' := 51) d2_50 rfl rfl ?_
  refine g_bipush C (pc' := 53) (v := (-6 : Int32)) d2_51 (by decide) rfl ?_
  refine g_icN C (pc' := 56) d2_53 rfl (says_f (cd := .eq) (c8)) rfl ?_
  refine g_iloadN C (pc' := 57) d2_56 rfl rfl ?_
  refine g_iconst C (pc' := 58) (v := (5 : Int32)) d2_57 (by decide) rfl ?_
  refine g_icN C (pc' := 61) d2_58 rfl (says_f (cd := .eq) (c9)) rfl ?_
  refine g_iloadN C (pc' := 62) d2_61 rfl rfl ?_
  refine g_iconst C (pc' := 63) (v := (4 : Int32)) d2_62 (by decide) rfl ?_
  refine g_icN C (pc' := 66) d2_63 rfl (says_f (cd := .eq) (c10)) rfl ?_
  refine g_iloadN C (pc' := 67) d2_66 rfl rfl ?_
  refine g_bipush C (pc' := 69) (v := (-5 : Int32)) d2_67 (by decide) rfl ?_
  refine g_icY C (pc' := 74) d2_69 rfl (says_t (cd := .ne) (c11)) (by decide) rfl ?_
  refine g_iconst C (pc' := 75) (v := (2 : Int32)) d2_74 (by decide) rfl ?_
  exact g_ireturn C d2_75 rfl (Nat.le_of_ble_eq_true rfl) (Nat.le_of_ble_eq_true rfl) (⟨rfl, rfl⟩)
theorem own_idx (x : Int32) : ¬ ((x.toUInt32 >>> ((1 : Int32) &&& 31).toUInt32).toInt32 % (45 : Int32)) < 0 ∧ ((x.toUInt32 >>> ((1 : Int32) &&& 31).toUInt32).toInt32 % (45 : Int32)) < 45 := by
  have h1 := c_iushr x 1 1 (by decide) (by decide)
  have h2 := (c_irem ((x.toUInt32 >>> ((1 : Int32) &&& 31).toUInt32).toInt32) 45 45 (by decide)).1 (by rw [h1]; omega)
  rw [Int32.lt_iff_toInt_lt, Int32.lt_iff_toInt_lt, h2]
  have e0 : (0 : Int32).toInt = 0 := by decide
  have e45 : (45 : Int32).toInt = 45 := by decide
  rw [e0, e45]; omega
theorem own_getD (xs : List Int32) (i : Nat) : (xs.map Value.int).getD i (.int (0 : Int32)) = .int (xs.getD i 0) := by
  rw [List.getD_eq_getElem?_getD, List.getD_eq_getElem?_getD, List.getElem?_map]; cases xs[i]? <;> rfl
def LQ : Option Value → Heap → Prop := fun v _ => v = some (.int (1 : Int32))
theorem pd_0 : parseMethodDescriptor "(I)Lcom/example/tributary/tributary/source/rdb/Column$Kind;" = some ⟨[.int], some (.object "com/example/tributary/tributary/source/rdb/Column$Kind")⟩ := by decide +kernel
theorem pd_1 : parseMethodDescriptor "(I)I" = some ⟨[.int], some .int⟩ := by decide +kernel
set_option maxRecDepth 65536 in
set_option maxHeartbeats 40000000 in
theorem rm0 (l : Launch) (Z : State) (a0 : Array Value) (hw : ∀ d ∈ tables_1, d.before a0 Z = true) (n0 : Nat) (h : Heap) (O : Old Z n0 h) (s_OTHER : Addr) (s_STRING : Addr) (s_INTEGER : Addr) (H : En Z s_OTHER s_STRING s_INTEGER) (p0 : Int32) (p1 : Int32) : Con l Z x code maxLocals ret room_1 #[(.int p0), (.int p1)] h n0 (LQ) := by
  refine Con.mk (Ls := #[.val (.int p0), .val (.int p1), .unset, .unset, .unset, .unset]) (plainFor_of_name pn_1) (fun m => by first | (simp [entryFrame, mkF, argsToLocals, Value.category, maxLocals]; done) | rfl) (fun w C => ?_)
  replace C : Cx w l Z "com/example/tributary/tributary/source/rdb/KindOfPinLaw" code 6 (some .boolean) "law" room_1 n0 := C
  obtain ⟨S_OTHER, E_OTHER, S_STRING, E_STRING, S_INTEGER, E_INTEGER⟩ := id H
  refine g_bipush C (pc' := 2) (v := (45 : Int32)) at_0 (by decide) rfl ?_
  refine g_newP C (pc' := 4) (k' := 1) (n' := 45) (cap := 45) (wd hw 0 rfl) at_2 rfl (by decide) (by decide) (by decide) (by decide) (by decide) rfl rfl rfl (fun h1 b2 kA3 ex4 E5 A6 => ?_)
  have ge_b2 : n0 ≤ b2 := by rw [ex4]; exact O.1 ▸ O.2.1
  have f7 := O.ext E5
  have A8 : Arv Z h1 b2 kA3 .int (45 : Int32) [(.int (0 : Int32)), (.int (0 : Int32)), (.int (0 : Int32)), (.int (0 : Int32)), (.int (0 : Int32)), (.int (0 : Int32)), (.int (0 : Int32)), (.int (0 : Int32)), (.int (0 : Int32)), (.int (0 : Int32)), (.int (0 : Int32)), (.int (0 : Int32)), (.int (0 : Int32)), (.int (0 : Int32)), (.int (0 : Int32)), (.int (0 : Int32)), (.int (0 : Int32)), (.int (0 : Int32)), (.int (0 : Int32)), (.int (0 : Int32)), (.int (0 : Int32)), (.int (0 : Int32)), (.int (0 : Int32)), (.int (0 : Int32)), (.int (0 : Int32)), (.int (0 : Int32)), (.int (0 : Int32)), (.int (0 : Int32)), (.int (0 : Int32)), (.int (0 : Int32)), (.int (0 : Int32)), (.int (0 : Int32)), (.int (0 : Int32)), (.int (0 : Int32)), (.int (0 : Int32)), (.int (0 : Int32)), (.int (0 : Int32)), (.int (0 : Int32)), (.int (0 : Int32)), (.int (0 : Int32)), (.int (0 : Int32)), (.int (0 : Int32)), (.int (0 : Int32)), (.int (0 : Int32)), (.int (0 : Int32))] (.int (0 : Int32)) := A6.pad (pad_rep [] (.int (0 : Int32)) 45)
  refine g_dup C (pc' := 5) at_4 rfl rfl rfl ?_
  refine g_iconst C (pc' := 6) (v := (0 : Int32)) at_5 (by decide) rfl ?_
  refine g_iconst C (pc' := 7) (v := (1 : Int32)) at_6 (by decide) rfl ?_
  refine g_iastore C (pc' := 8) at_7 rfl A8 (by decide) (by decide) ge_b2 rfl (fun h9 W10 => ?_)
  have f11 := f7.wr W10 ge_b2
  have f12 := (arv_put A8 rfl W10 (i := 0) rfl (Nat.le_of_ble_eq_true rfl) : Arv Z h9 b2 kA3 .int (45 : Int32) [(.int (1 : Int32)), (.int (0 : Int32)), (.int (0 : Int32)), (.int (0 : Int32)), (.int (0 : Int32)), (.int (0 : Int32)), (.int (0 : Int32)), (.int (0 : Int32)), (.int (0 : Int32)), (.int (0 : Int32)), (.int (0 : Int32)), (.int (0 : Int32)), (.int (0 : Int32)), (.int (0 : Int32)), (.int (0 : Int32)), (.int (0 : Int32)), (.int (0 : Int32)), (.int (0 : Int32)), (.int (0 : Int32)), (.int (0 : Int32)), (.int (0 : Int32)), (.int (0 : Int32)), (.int (0 : Int32)), (.int (0 : Int32)), (.int (0 : Int32)), (.int (0 : Int32)), (.int (0 : Int32)), (.int (0 : Int32)), (.int (0 : Int32)), (.int (0 : Int32)), (.int (0 : Int32)), (.int (0 : Int32)), (.int (0 : Int32)), (.int (0 : Int32)), (.int (0 : Int32)), (.int (0 : Int32)), (.int (0 : Int32)), (.int (0 : Int32)), (.int (0 : Int32)), (.int (0 : Int32)), (.int (0 : Int32)), (.int (0 : Int32)), (.int (0 : Int32)), (.int (0 : Int32)), (.int (0 : Int32))] (.int (0 : Int32)))
  refine g_dup C (pc' := 9) at_8 rfl rfl rfl ?_
  refine g_iconst C (pc' := 10) (v := (1 : Int32)) at_9 (by decide) rfl ?_
  refine g_bipush C (pc' := 12) (v := (12 : Int32)) at_10 (by decide) rfl ?_
  refine g_iastore C (pc' := 13) at_12 rfl f12 (by decide) (by decide) ge_b2 rfl (fun h13 W14 => ?_)
  have f15 := f11.wr W14 ge_b2
  have f16 := (arv_put f12 rfl W14 (i := 1) rfl (Nat.le_of_ble_eq_true rfl) : Arv Z h13 b2 kA3 .int (45 : Int32) [(.int (1 : Int32)), (.int (12 : Int32)), (.int (0 : Int32)), (.int (0 : Int32)), (.int (0 : Int32)), (.int (0 : Int32)), (.int (0 : Int32)), (.int (0 : Int32)), (.int (0 : Int32)), (.int (0 : Int32)), (.int (0 : Int32)), (.int (0 : Int32)), (.int (0 : Int32)), (.int (0 : Int32)), (.int (0 : Int32)), (.int (0 : Int32)), (.int (0 : Int32)), (.int (0 : Int32)), (.int (0 : Int32)), (.int (0 : Int32)), (.int (0 : Int32)), (.int (0 : Int32)), (.int (0 : Int32)), (.int (0 : Int32)), (.int (0 : Int32)), (.int (0 : Int32)), (.int (0 : Int32)), (.int (0 : Int32)), (.int (0 : Int32)), (.int (0 : Int32)), (.int (0 : Int32)), (.int (0 : Int32)), (.int (0 : Int32)), (.int (0 : Int32)), (.int (0 : Int32)), (.int (0 : Int32)), (.int (0 : Int32)), (.int (0 : Int32)), (.int (0 : Int32)), (.int (0 : Int32)), (.int (0 : Int32)), (.int (0 : Int32)), (.int (0 : Int32)), (.int (0 : Int32)), (.int (0 : Int32))] (.int (0 : Int32)))
  refine g_dup C (pc' := 14) at_13 rfl rfl rfl ?_
  refine g_iconst C (pc' := 15) (v := (2 : Int32)) at_14 (by decide) rfl ?_
  refine g_iconst C (pc' := 16) (v := (-1 : Int32)) at_15 (by decide) rfl ?_
  refine g_iastore C (pc' := 17) at_16 rfl f16 (by decide) (by decide) ge_b2 rfl (fun h17 W18 => ?_)
  have f19 := f15.wr W18 ge_b2
  have f20 := (arv_put f16 rfl W18 (i := 2) rfl (Nat.le_of_ble_eq_true rfl) : Arv Z h17 b2 kA3 .int (45 : Int32) [(.int (1 : Int32)), (.int (12 : Int32)), (.int (-1 : Int32)), (.int (0 : Int32)), (.int (0 : Int32)), (.int (0 : Int32)), (.int (0 : Int32)), (.int (0 : Int32)), (.int (0 : Int32)), (.int (0 : Int32)), (.int (0 : Int32)), (.int (0 : Int32)), (.int (0 : Int32)), (.int (0 : Int32)), (.int (0 : Int32)), (.int (0 : Int32)), (.int (0 : Int32)), (.int (0 : Int32)), (.int (0 : Int32)), (.int (0 : Int32)), (.int (0 : Int32)), (.int (0 : Int32)), (.int (0 : Int32)), (.int (0 : Int32)), (.int (0 : Int32)), (.int (0 : Int32)), (.int (0 : Int32)), (.int (0 : Int32)), (.int (0 : Int32)), (.int (0 : Int32)), (.int (0 : Int32)), (.int (0 : Int32)), (.int (0 : Int32)), (.int (0 : Int32)), (.int (0 : Int32)), (.int (0 : Int32)), (.int (0 : Int32)), (.int (0 : Int32)), (.int (0 : Int32)), (.int (0 : Int32)), (.int (0 : Int32)), (.int (0 : Int32)), (.int (0 : Int32)), (.int (0 : Int32)), (.int (0 : Int32))] (.int (0 : Int32)))
  refine g_dup C (pc' := 18) at_17 rfl rfl rfl ?_
  refine g_iconst C (pc' := 19) (v := (3 : Int32)) at_18 (by decide) rfl ?_
  refine g_bipush C (pc' := 21) (v := (-15 : Int32)) at_19 (by decide) rfl ?_
  refine g_iastore C (pc' := 22) at_21 rfl f20 (by decide) (by decide) ge_b2 rfl (fun h21 W22 => ?_)
  have f23 := f19.wr W22 ge_b2
  have f24 := (arv_put f20 rfl W22 (i := 3) rfl (Nat.le_of_ble_eq_true rfl) : Arv Z h21 b2 kA3 .int (45 : Int32) [(.int (1 : Int32)), (.int (12 : Int32)), (.int (-1 : Int32)), (.int (-15 : Int32)), (.int (0 : Int32)), (.int (0 : Int32)), (.int (0 : Int32)), (.int (0 : Int32)), (.int (0 : Int32)), (.int (0 : Int32)), (.int (0 : Int32)), (.int (0 : Int32)), (.int (0 : Int32)), (.int (0 : Int32)), (.int (0 : Int32)), (.int (0 : Int32)), (.int (0 : Int32)), (.int (0 : Int32)), (.int (0 : Int32)), (.int (0 : Int32)), (.int (0 : Int32)), (.int (0 : Int32)), (.int (0 : Int32)), (.int (0 : Int32)), (.int (0 : Int32)), (.int (0 : Int32)), (.int (0 : Int32)), (.int (0 : Int32)), (.int (0 : Int32)), (.int (0 : Int32)), (.int (0 : Int32)), (.int (0 : Int32)), (.int (0 : Int32)), (.int (0 : Int32)), (.int (0 : Int32)), (.int (0 : Int32)), (.int (0 : Int32)), (.int (0 : Int32)), (.int (0 : Int32)), (.int (0 : Int32)), (.int (0 : Int32)), (.int (0 : Int32)), (.int (0 : Int32)), (.int (0 : Int32)), (.int (0 : Int32))] (.int (0 : Int32)))
  refine g_dup C (pc' := 23) at_22 rfl rfl rfl ?_
  refine g_iconst C (pc' := 24) (v := (4 : Int32)) at_23 (by decide) rfl ?_
  refine g_bipush C (pc' := 26) (v := (-9 : Int32)) at_24 (by decide) rfl ?_
  refine g_iastore C (pc' := 27) at_26 rfl f24 (by decide) (by decide) ge_b2 rfl (fun h25 W26 => ?_)
  have f27 := f23.wr W26 ge_b2
  have f28 := (arv_put f24 rfl W26 (i := 4) rfl (Nat.le_of_ble_eq_true rfl) : Arv Z h25 b2 kA3 .int (45 : Int32) [(.int (1 : Int32)), (.int (12 : Int32)), (.int (-1 : Int32)), (.int (-15 : Int32)), (.int (-9 : Int32)), (.int (0 : Int32)), (.int (0 : Int32)), (.int (0 : Int32)), (.int (0 : Int32)), (.int (0 : Int32)), (.int (0 : Int32)), (.int (0 : Int32)), (.int (0 : Int32)), (.int (0 : Int32)), (.int (0 : Int32)), (.int (0 : Int32)), (.int (0 : Int32)), (.int (0 : Int32)), (.int (0 : Int32)), (.int (0 : Int32)), (.int (0 : Int32)), (.int (0 : Int32)), (.int (0 : Int32)), (.int (0 : Int32)), (.int (0 : Int32)), (.int (0 : Int32)), (.int (0 : Int32)), (.int (0 : Int32)), (.int (0 : Int32)), (.int (0 : Int32)), (.int (0 : Int32)), (.int (0 : Int32)), (.int (0 : Int32)), (.int (0 : Int32)), (.int (0 : Int32)), (.int (0 : Int32)), (.int (0 : Int32)), (.int (0 : Int32)), (.int (0 : Int32)), (.int (0 : Int32)), (.int (0 : Int32)), (.int (0 : Int32)), (.int (0 : Int32)), (.int (0 : Int32)), (.int (0 : Int32))] (.int (0 : Int32)))
  refine g_dup C (pc' := 28) at_27 rfl rfl rfl ?_
  refine g_iconst C (pc' := 29) (v := (5 : Int32)) at_28 (by decide) rfl ?_
  refine g_bipush C (pc' := 31) (v := (-16 : Int32)) at_29 (by decide) rfl ?_
  refine g_iastore C (pc' := 32) at_31 rfl f28 (by decide) (by decide) ge_b2 rfl (fun h29 W30 => ?_)
  have f31 := f27.wr W30 ge_b2
  have f32 := (arv_put f28 rfl W30 (i := 5) rfl (Nat.le_of_ble_eq_true rfl) : Arv Z h29 b2 kA3 .int (45 : Int32) [(.int (1 : Int32)), (.int (12 : Int32)), (.int (-1 : Int32)), (.int (-15 : Int32)), (.int (-9 : Int32)), (.int (-16 : Int32)), (.int (0 : Int32)), (.int (0 : Int32)), (.int (0 : Int32)), (.int (0 : Int32)), (.int (0 : Int32)), (.int (0 : Int32)), (.int (0 : Int32)), (.int (0 : Int32)), (.int (0 : Int32)), (.int (0 : Int32)), (.int (0 : Int32)), (.int (0 : Int32)), (.int (0 : Int32)), (.int (0 : Int32)), (.int (0 : Int32)), (.int (0 : Int32)), (.int (0 : Int32)), (.int (0 : Int32)), (.int (0 : Int32)), (.int (0 : Int32)), (.int (0 : Int32)), (.int (0 : Int32)), (.int (0 : Int32)), (.int (0 : Int32)), (.int (0 : Int32)), (.int (0 : Int32)), (.int (0 : Int32)), (.int (0 : Int32)), (.int (0 : Int32)), (.int (0 : Int32)), (.int (0 : Int32)), (.int (0 : Int32)), (.int (0 : Int32)), (.int (0 : Int32)), (.int (0 : Int32)), (.int (0 : Int32)), (.int (0 : Int32)), (.int (0 : Int32)), (.int (0 : Int32))] (.int (0 : Int32)))
  refine g_dup C (pc' := 33) at_32 rfl rfl rfl ?_
  refine g_bipush C (pc' := 35) (v := (6 : Int32)) at_33 (by decide) rfl ?_
  refine g_sipush C (pc' := 38) (v := (2005 : Int32)) at_35 (by decide) rfl ?_
  refine g_iastore C (pc' := 39) at_38 rfl f32 (by decide) (by decide) ge_b2 rfl (fun h33 W34 => ?_)
  have f35 := f31.wr W34 ge_b2
  have f36 := (arv_put f32 rfl W34 (i := 6) rfl (Nat.le_of_ble_eq_true rfl) : Arv Z h33 b2 kA3 .int (45 : Int32) [(.int (1 : Int32)), (.int (12 : Int32)), (.int (-1 : Int32)), (.int (-15 : Int32)), (.int (-9 : Int32)), (.int (-16 : Int32)), (.int (2005 : Int32)), (.int (0 : Int32)), (.int (0 : Int32)), (.int (0 : Int32)), (.int (0 : Int32)), (.int (0 : Int32)), (.int (0 : Int32)), (.int (0 : Int32)), (.int (0 : Int32)), (.int (0 : Int32)), (.int (0 : Int32)), (.int (0 : Int32)), (.int (0 : Int32)), (.int (0 : Int32)), (.int (0 : Int32)), (.int (0 : Int32)), (.int (0 : Int32)), (.int (0 : Int32)), (.int (0 : Int32)), (.int (0 : Int32)), (.int (0 : Int32)), (.int (0 : Int32)), (.int (0 : Int32)), (.int (0 : Int32)), (.int (0 : Int32)), (.int (0 : Int32)), (.int (0 : Int32)), (.int (0 : Int32)), (.int (0 : Int32)), (.int (0 : Int32)), (.int (0 : Int32)), (.int (0 : Int32)), (.int (0 : Int32)), (.int (0 : Int32)), (.int (0 : Int32)), (.int (0 : Int32)), (.int (0 : Int32)), (.int (0 : Int32)), (.int (0 : Int32))] (.int (0 : Int32)))
  refine g_dup C (pc' := 40) at_39 rfl rfl rfl ?_
  refine g_bipush C (pc' := 42) (v := (7 : Int32)) at_40 (by decide) rfl ?_
  refine g_sipush C (pc' := 45) (v := (2011 : Int32)) at_42 (by decide) rfl ?_
  refine g_iastore C (pc' := 46) at_45 rfl f36 (by decide) (by decide) ge_b2 rfl (fun h37 W38 => ?_)
  have f39 := f35.wr W38 ge_b2
  have f40 := (arv_put f36 rfl W38 (i := 7) rfl (Nat.le_of_ble_eq_true rfl) : Arv Z h37 b2 kA3 .int (45 : Int32) [(.int (1 : Int32)), (.int (12 : Int32)), (.int (-1 : Int32)), (.int (-15 : Int32)), (.int (-9 : Int32)), (.int (-16 : Int32)), (.int (2005 : Int32)), (.int (2011 : Int32)), (.int (0 : Int32)), (.int (0 : Int32)), (.int (0 : Int32)), (.int (0 : Int32)), (.int (0 : Int32)), (.int (0 : Int32)), (.int (0 : Int32)), (.int (0 : Int32)), (.int (0 : Int32)), (.int (0 : Int32)), (.int (0 : Int32)), (.int (0 : Int32)), (.int (0 : Int32)), (.int (0 : Int32)), (.int (0 : Int32)), (.int (0 : Int32)), (.int (0 : Int32)), (.int (0 : Int32)), (.int (0 : Int32)), (.int (0 : Int32)), (.int (0 : Int32)), (.int (0 : Int32)), (.int (0 : Int32)), (.int (0 : Int32)), (.int (0 : Int32)), (.int (0 : Int32)), (.int (0 : Int32)), (.int (0 : Int32)), (.int (0 : Int32)), (.int (0 : Int32)), (.int (0 : Int32)), (.int (0 : Int32)), (.int (0 : Int32)), (.int (0 : Int32)), (.int (0 : Int32)), (.int (0 : Int32)), (.int (0 : Int32))] (.int (0 : Int32)))
  refine g_dup C (pc' := 47) at_46 rfl rfl rfl ?_
  refine g_bipush C (pc' := 49) (v := (8 : Int32)) at_47 (by decide) rfl ?_
  refine g_bipush C (pc' := 51) (v := (-6 : Int32)) at_49 (by decide) rfl ?_
  refine g_iastore C (pc' := 52) at_51 rfl f40 (by decide) (by decide) ge_b2 rfl (fun h41 W42 => ?_)
  have f43 := f39.wr W42 ge_b2
  have f44 := (arv_put f40 rfl W42 (i := 8) rfl (Nat.le_of_ble_eq_true rfl) : Arv Z h41 b2 kA3 .int (45 : Int32) [(.int (1 : Int32)), (.int (12 : Int32)), (.int (-1 : Int32)), (.int (-15 : Int32)), (.int (-9 : Int32)), (.int (-16 : Int32)), (.int (2005 : Int32)), (.int (2011 : Int32)), (.int (-6 : Int32)), (.int (0 : Int32)), (.int (0 : Int32)), (.int (0 : Int32)), (.int (0 : Int32)), (.int (0 : Int32)), (.int (0 : Int32)), (.int (0 : Int32)), (.int (0 : Int32)), (.int (0 : Int32)), (.int (0 : Int32)), (.int (0 : Int32)), (.int (0 : Int32)), (.int (0 : Int32)), (.int (0 : Int32)), (.int (0 : Int32)), (.int (0 : Int32)), (.int (0 : Int32)), (.int (0 : Int32)), (.int (0 : Int32)), (.int (0 : Int32)), (.int (0 : Int32)), (.int (0 : Int32)), (.int (0 : Int32)), (.int (0 : Int32)), (.int (0 : Int32)), (.int (0 : Int32)), (.int (0 : Int32)), (.int (0 : Int32)), (.int (0 : Int32)), (.int (0 : Int32)), (.int (0 : Int32)), (.int (0 : Int32)), (.int (0 : Int32)), (.int (0 : Int32)), (.int (0 : Int32)), (.int (0 : Int32))] (.int (0 : Int32)))
  refine g_dup C (pc' := 53) at_52 rfl rfl rfl ?_
  refine g_bipush C (pc' := 55) (v := (9 : Int32)) at_53 (by decide) rfl ?_
  refine g_iconst C (pc' := 56) (v := (5 : Int32)) at_55 (by decide) rfl ?_
  refine g_iastore C (pc' := 57) at_56 rfl f44 (by decide) (by decide) ge_b2 rfl (fun h45 W46 => ?_)
  have f47 := f43.wr W46 ge_b2
  have f48 := (arv_put f44 rfl W46 (i := 9) rfl (Nat.le_of_ble_eq_true rfl) : Arv Z h45 b2 kA3 .int (45 : Int32) [(.int (1 : Int32)), (.int (12 : Int32)), (.int (-1 : Int32)), (.int (-15 : Int32)), (.int (-9 : Int32)), (.int (-16 : Int32)), (.int (2005 : Int32)), (.int (2011 : Int32)), (.int (-6 : Int32)), (.int (5 : Int32)), (.int (0 : Int32)), (.int (0 : Int32)), (.int (0 : Int32)), (.int (0 : Int32)), (.int (0 : Int32)), (.int (0 : Int32)), (.int (0 : Int32)), (.int (0 : Int32)), (.int (0 : Int32)), (.int (0 : Int32)), (.int (0 : Int32)), (.int (0 : Int32)), (.int (0 : Int32)), (.int (0 : Int32)), (.int (0 : Int32)), (.int (0 : Int32)), (.int (0 : Int32)), (.int (0 : Int32)), (.int (0 : Int32)), (.int (0 : Int32)), (.int (0 : Int32)), (.int (0 : Int32)), (.int (0 : Int32)), (.int (0 : Int32)), (.int (0 : Int32)), (.int (0 : Int32)), (.int (0 : Int32)), (.int (0 : Int32)), (.int (0 : Int32)), (.int (0 : Int32)), (.int (0 : Int32)), (.int (0 : Int32)), (.int (0 : Int32)), (.int (0 : Int32)), (.int (0 : Int32))] (.int (0 : Int32)))
  refine g_dup C (pc' := 58) at_57 rfl rfl rfl ?_
  refine g_bipush C (pc' := 60) (v := (10 : Int32)) at_58 (by decide) rfl ?_
  refine g_iconst C (pc' := 61) (v := (4 : Int32)) at_60 (by decide) rfl ?_
  refine g_iastore C (pc' := 62) at_61 rfl f48 (by decide) (by decide) ge_b2 rfl (fun h49 W50 => ?_)
  have f51 := f47.wr W50 ge_b2
  have f52 := (arv_put f48 rfl W50 (i := 10) rfl (Nat.le_of_ble_eq_true rfl) : Arv Z h49 b2 kA3 .int (45 : Int32) [(.int (1 : Int32)), (.int (12 : Int32)), (.int (-1 : Int32)), (.int (-15 : Int32)), (.int (-9 : Int32)), (.int (-16 : Int32)), (.int (2005 : Int32)), (.int (2011 : Int32)), (.int (-6 : Int32)), (.int (5 : Int32)), (.int (4 : Int32)), (.int (0 : Int32)), (.int (0 : Int32)), (.int (0 : Int32)), (.int (0 : Int32)), (.int (0 : Int32)), (.int (0 : Int32)), (.int (0 : Int32)), (.int (0 : Int32)), (.int (0 : Int32)), (.int (0 : Int32)), (.int (0 : Int32)), (.int (0 : Int32)), (.int (0 : Int32)), (.int (0 : Int32)), (.int (0 : Int32)), (.int (0 : Int32)), (.int (0 : Int32)), (.int (0 : Int32)), (.int (0 : Int32)), (.int (0 : Int32)), (.int (0 : Int32)), (.int (0 : Int32)), (.int (0 : Int32)), (.int (0 : Int32)), (.int (0 : Int32)), (.int (0 : Int32)), (.int (0 : Int32)), (.int (0 : Int32)), (.int (0 : Int32)), (.int (0 : Int32)), (.int (0 : Int32)), (.int (0 : Int32)), (.int (0 : Int32)), (.int (0 : Int32))] (.int (0 : Int32)))
  refine g_dup C (pc' := 63) at_62 rfl rfl rfl ?_
  refine g_bipush C (pc' := 65) (v := (11 : Int32)) at_63 (by decide) rfl ?_
  refine g_bipush C (pc' := 67) (v := (-5 : Int32)) at_65 (by decide) rfl ?_
  refine g_iastore C (pc' := 68) at_67 rfl f52 (by decide) (by decide) ge_b2 rfl (fun h53 W54 => ?_)
  have f55 := f51.wr W54 ge_b2
  have f56 := (arv_put f52 rfl W54 (i := 11) rfl (Nat.le_of_ble_eq_true rfl) : Arv Z h53 b2 kA3 .int (45 : Int32) [(.int (1 : Int32)), (.int (12 : Int32)), (.int (-1 : Int32)), (.int (-15 : Int32)), (.int (-9 : Int32)), (.int (-16 : Int32)), (.int (2005 : Int32)), (.int (2011 : Int32)), (.int (-6 : Int32)), (.int (5 : Int32)), (.int (4 : Int32)), (.int (-5 : Int32)), (.int (0 : Int32)), (.int (0 : Int32)), (.int (0 : Int32)), (.int (0 : Int32)), (.int (0 : Int32)), (.int (0 : Int32)), (.int (0 : Int32)), (.int (0 : Int32)), (.int (0 : Int32)), (.int (0 : Int32)), (.int (0 : Int32)), (.int (0 : Int32)), (.int (0 : Int32)), (.int (0 : Int32)), (.int (0 : Int32)), (.int (0 : Int32)), (.int (0 : Int32)), (.int (0 : Int32)), (.int (0 : Int32)), (.int (0 : Int32)), (.int (0 : Int32)), (.int (0 : Int32)), (.int (0 : Int32)), (.int (0 : Int32)), (.int (0 : Int32)), (.int (0 : Int32)), (.int (0 : Int32)), (.int (0 : Int32)), (.int (0 : Int32)), (.int (0 : Int32)), (.int (0 : Int32)), (.int (0 : Int32)), (.int (0 : Int32))] (.int (0 : Int32)))
  refine g_dup C (pc' := 69) at_68 rfl rfl rfl ?_
  refine g_bipush C (pc' := 71) (v := (12 : Int32)) at_69 (by decide) rfl ?_
  refine g_iconst C (pc' := 72) (v := (0 : Int32)) at_71 (by decide) rfl ?_
  refine g_iastore C (pc' := 73) at_72 rfl f56 (by decide) (by decide) ge_b2 rfl (fun h57 W58 => ?_)
  have f59 := f55.wr W58 ge_b2
  have f60 := (arv_put f56 rfl W58 (i := 12) rfl (Nat.le_of_ble_eq_true rfl) : Arv Z h57 b2 kA3 .int (45 : Int32) [(.int (1 : Int32)), (.int (12 : Int32)), (.int (-1 : Int32)), (.int (-15 : Int32)), (.int (-9 : Int32)), (.int (-16 : Int32)), (.int (2005 : Int32)), (.int (2011 : Int32)), (.int (-6 : Int32)), (.int (5 : Int32)), (.int (4 : Int32)), (.int (-5 : Int32)), (.int (0 : Int32)), (.int (0 : Int32)), (.int (0 : Int32)), (.int (0 : Int32)), (.int (0 : Int32)), (.int (0 : Int32)), (.int (0 : Int32)), (.int (0 : Int32)), (.int (0 : Int32)), (.int (0 : Int32)), (.int (0 : Int32)), (.int (0 : Int32)), (.int (0 : Int32)), (.int (0 : Int32)), (.int (0 : Int32)), (.int (0 : Int32)), (.int (0 : Int32)), (.int (0 : Int32)), (.int (0 : Int32)), (.int (0 : Int32)), (.int (0 : Int32)), (.int (0 : Int32)), (.int (0 : Int32)), (.int (0 : Int32)), (.int (0 : Int32)), (.int (0 : Int32)), (.int (0 : Int32)), (.int (0 : Int32)), (.int (0 : Int32)), (.int (0 : Int32)), (.int (0 : Int32)), (.int (0 : Int32)), (.int (0 : Int32))] (.int (0 : Int32)))
  refine g_dup C (pc' := 74) at_73 rfl rfl rfl ?_
  refine g_bipush C (pc' := 76) (v := (13 : Int32)) at_74 (by decide) rfl ?_
  refine g_iconst C (pc' := 77) (v := (2 : Int32)) at_76 (by decide) rfl ?_
  refine g_iastore C (pc' := 78) at_77 rfl f60 (by decide) (by decide) ge_b2 rfl (fun h61 W62 => ?_)
  have f63 := f59.wr W62 ge_b2
  have f64 := (arv_put f60 rfl W62 (i := 13) rfl (Nat.le_of_ble_eq_true rfl) : Arv Z h61 b2 kA3 .int (45 : Int32) [(.int (1 : Int32)), (.int (12 : Int32)), (.int (-1 : Int32)), (.int (-15 : Int32)), (.int (-9 : Int32)), (.int (-16 : Int32)), (.int (2005 : Int32)), (.int (2011 : Int32)), (.int (-6 : Int32)), (.int (5 : Int32)), (.int (4 : Int32)), (.int (-5 : Int32)), (.int (0 : Int32)), (.int (2 : Int32)), (.int (0 : Int32)), (.int (0 : Int32)), (.int (0 : Int32)), (.int (0 : Int32)), (.int (0 : Int32)), (.int (0 : Int32)), (.int (0 : Int32)), (.int (0 : Int32)), (.int (0 : Int32)), (.int (0 : Int32)), (.int (0 : Int32)), (.int (0 : Int32)), (.int (0 : Int32)), (.int (0 : Int32)), (.int (0 : Int32)), (.int (0 : Int32)), (.int (0 : Int32)), (.int (0 : Int32)), (.int (0 : Int32)), (.int (0 : Int32)), (.int (0 : Int32)), (.int (0 : Int32)), (.int (0 : Int32)), (.int (0 : Int32)), (.int (0 : Int32)), (.int (0 : Int32)), (.int (0 : Int32)), (.int (0 : Int32)), (.int (0 : Int32)), (.int (0 : Int32)), (.int (0 : Int32))] (.int (0 : Int32)))
  refine g_dup C (pc' := 79) at_78 rfl rfl rfl ?_
  refine g_bipush C (pc' := 81) (v := (14 : Int32)) at_79 (by decide) rfl ?_
  refine g_iconst C (pc' := 82) (v := (3 : Int32)) at_81 (by decide) rfl ?_
  refine g_iastore C (pc' := 83) at_82 rfl f64 (by decide) (by decide) ge_b2 rfl (fun h65 W66 => ?_)
  have f67 := f63.wr W66 ge_b2
  have f68 := (arv_put f64 rfl W66 (i := 14) rfl (Nat.le_of_ble_eq_true rfl) : Arv Z h65 b2 kA3 .int (45 : Int32) [(.int (1 : Int32)), (.int (12 : Int32)), (.int (-1 : Int32)), (.int (-15 : Int32)), (.int (-9 : Int32)), (.int (-16 : Int32)), (.int (2005 : Int32)), (.int (2011 : Int32)), (.int (-6 : Int32)), (.int (5 : Int32)), (.int (4 : Int32)), (.int (-5 : Int32)), (.int (0 : Int32)), (.int (2 : Int32)), (.int (3 : Int32)), (.int (0 : Int32)), (.int (0 : Int32)), (.int (0 : Int32)), (.int (0 : Int32)), (.int (0 : Int32)), (.int (0 : Int32)), (.int (0 : Int32)), (.int (0 : Int32)), (.int (0 : Int32)), (.int (0 : Int32)), (.int (0 : Int32)), (.int (0 : Int32)), (.int (0 : Int32)), (.int (0 : Int32)), (.int (0 : Int32)), (.int (0 : Int32)), (.int (0 : Int32)), (.int (0 : Int32)), (.int (0 : Int32)), (.int (0 : Int32)), (.int (0 : Int32)), (.int (0 : Int32)), (.int (0 : Int32)), (.int (0 : Int32)), (.int (0 : Int32)), (.int (0 : Int32)), (.int (0 : Int32)), (.int (0 : Int32)), (.int (0 : Int32)), (.int (0 : Int32))] (.int (0 : Int32)))
  refine g_dup C (pc' := 84) at_83 rfl rfl rfl ?_
  refine g_bipush C (pc' := 86) (v := (15 : Int32)) at_84 (by decide) rfl ?_
  refine g_bipush C (pc' := 88) (v := (6 : Int32)) at_86 (by decide) rfl ?_
  refine g_iastore C (pc' := 89) at_88 rfl f68 (by decide) (by decide) ge_b2 rfl (fun h69 W70 => ?_)
  have f71 := f67.wr W70 ge_b2
  have f72 := (arv_put f68 rfl W70 (i := 15) rfl (Nat.le_of_ble_eq_true rfl) : Arv Z h69 b2 kA3 .int (45 : Int32) [(.int (1 : Int32)), (.int (12 : Int32)), (.int (-1 : Int32)), (.int (-15 : Int32)), (.int (-9 : Int32)), (.int (-16 : Int32)), (.int (2005 : Int32)), (.int (2011 : Int32)), (.int (-6 : Int32)), (.int (5 : Int32)), (.int (4 : Int32)), (.int (-5 : Int32)), (.int (0 : Int32)), (.int (2 : Int32)), (.int (3 : Int32)), (.int (6 : Int32)), (.int (0 : Int32)), (.int (0 : Int32)), (.int (0 : Int32)), (.int (0 : Int32)), (.int (0 : Int32)), (.int (0 : Int32)), (.int (0 : Int32)), (.int (0 : Int32)), (.int (0 : Int32)), (.int (0 : Int32)), (.int (0 : Int32)), (.int (0 : Int32)), (.int (0 : Int32)), (.int (0 : Int32)), (.int (0 : Int32)), (.int (0 : Int32)), (.int (0 : Int32)), (.int (0 : Int32)), (.int (0 : Int32)), (.int (0 : Int32)), (.int (0 : Int32)), (.int (0 : Int32)), (.int (0 : Int32)), (.int (0 : Int32)), (.int (0 : Int32)), (.int (0 : Int32)), (.int (0 : Int32)), (.int (0 : Int32)), (.int (0 : Int32))] (.int (0 : Int32)))
  refine g_dup C (pc' := 90) at_89 rfl rfl rfl ?_
  refine g_bipush C (pc' := 92) (v := (16 : Int32)) at_90 (by decide) rfl ?_
  refine g_bipush C (pc' := 94) (v := (7 : Int32)) at_92 (by decide) rfl ?_
  refine g_iastore C (pc' := 95) at_94 rfl f72 (by decide) (by decide) ge_b2 rfl (fun h73 W74 => ?_)
  have f75 := f71.wr W74 ge_b2
  have f76 := (arv_put f72 rfl W74 (i := 16) rfl (Nat.le_of_ble_eq_true rfl) : Arv Z h73 b2 kA3 .int (45 : Int32) [(.int (1 : Int32)), (.int (12 : Int32)), (.int (-1 : Int32)), (.int (-15 : Int32)), (.int (-9 : Int32)), (.int (-16 : Int32)), (.int (2005 : Int32)), (.int (2011 : Int32)), (.int (-6 : Int32)), (.int (5 : Int32)), (.int (4 : Int32)), (.int (-5 : Int32)), (.int (0 : Int32)), (.int (2 : Int32)), (.int (3 : Int32)), (.int (6 : Int32)), (.int (7 : Int32)), (.int (0 : Int32)), (.int (0 : Int32)), (.int (0 : Int32)), (.int (0 : Int32)), (.int (0 : Int32)), (.int (0 : Int32)), (.int (0 : Int32)), (.int (0 : Int32)), (.int (0 : Int32)), (.int (0 : Int32)), (.int (0 : Int32)), (.int (0 : Int32)), (.int (0 : Int32)), (.int (0 : Int32)), (.int (0 : Int32)), (.int (0 : Int32)), (.int (0 : Int32)), (.int (0 : Int32)), (.int (0 : Int32)), (.int (0 : Int32)), (.int (0 : Int32)), (.int (0 : Int32)), (.int (0 : Int32)), (.int (0 : Int32)), (.int (0 : Int32)), (.int (0 : Int32)), (.int (0 : Int32)), (.int (0 : Int32))] (.int (0 : Int32)))
  refine g_dup C (pc' := 96) at_95 rfl rfl rfl ?_
  refine g_bipush C (pc' := 98) (v := (17 : Int32)) at_96 (by decide) rfl ?_
  refine g_bipush C (pc' := 100) (v := (8 : Int32)) at_98 (by decide) rfl ?_
  refine g_iastore C (pc' := 101) at_100 rfl f76 (by decide) (by decide) ge_b2 rfl (fun h77 W78 => ?_)
  have f79 := f75.wr W78 ge_b2
  have f80 := (arv_put f76 rfl W78 (i := 17) rfl (Nat.le_of_ble_eq_true rfl) : Arv Z h77 b2 kA3 .int (45 : Int32) [(.int (1 : Int32)), (.int (12 : Int32)), (.int (-1 : Int32)), (.int (-15 : Int32)), (.int (-9 : Int32)), (.int (-16 : Int32)), (.int (2005 : Int32)), (.int (2011 : Int32)), (.int (-6 : Int32)), (.int (5 : Int32)), (.int (4 : Int32)), (.int (-5 : Int32)), (.int (0 : Int32)), (.int (2 : Int32)), (.int (3 : Int32)), (.int (6 : Int32)), (.int (7 : Int32)), (.int (8 : Int32)), (.int (0 : Int32)), (.int (0 : Int32)), (.int (0 : Int32)), (.int (0 : Int32)), (.int (0 : Int32)), (.int (0 : Int32)), (.int (0 : Int32)), (.int (0 : Int32)), (.int (0 : Int32)), (.int (0 : Int32)), (.int (0 : Int32)), (.int (0 : Int32)), (.int (0 : Int32)), (.int (0 : Int32)), (.int (0 : Int32)), (.int (0 : Int32)), (.int (0 : Int32)), (.int (0 : Int32)), (.int (0 : Int32)), (.int (0 : Int32)), (.int (0 : Int32)), (.int (0 : Int32)), (.int (0 : Int32)), (.int (0 : Int32)), (.int (0 : Int32)), (.int (0 : Int32)), (.int (0 : Int32))] (.int (0 : Int32)))
  refine g_dup C (pc' := 102) at_101 rfl rfl rfl ?_
  refine g_bipush C (pc' := 104) (v := (18 : Int32)) at_102 (by decide) rfl ?_
  refine g_bipush C (pc' := 106) (v := (-7 : Int32)) at_104 (by decide) rfl ?_
  refine g_iastore C (pc' := 107) at_106 rfl f80 (by decide) (by decide) ge_b2 rfl (fun h81 W82 => ?_)
  have f83 := f79.wr W82 ge_b2
  have f84 := (arv_put f80 rfl W82 (i := 18) rfl (Nat.le_of_ble_eq_true rfl) : Arv Z h81 b2 kA3 .int (45 : Int32) [(.int (1 : Int32)), (.int (12 : Int32)), (.int (-1 : Int32)), (.int (-15 : Int32)), (.int (-9 : Int32)), (.int (-16 : Int32)), (.int (2005 : Int32)), (.int (2011 : Int32)), (.int (-6 : Int32)), (.int (5 : Int32)), (.int (4 : Int32)), (.int (-5 : Int32)), (.int (0 : Int32)), (.int (2 : Int32)), (.int (3 : Int32)), (.int (6 : Int32)), (.int (7 : Int32)), (.int (8 : Int32)), (.int (-7 : Int32)), (.int (0 : Int32)), (.int (0 : Int32)), (.int (0 : Int32)), (.int (0 : Int32)), (.int (0 : Int32)), (.int (0 : Int32)), (.int (0 : Int32)), (.int (0 : Int32)), (.int (0 : Int32)), (.int (0 : Int32)), (.int (0 : Int32)), (.int (0 : Int32)), (.int (0 : Int32)), (.int (0 : Int32)), (.int (0 : Int32)), (.int (0 : Int32)), (.int (0 : Int32)), (.int (0 : Int32)), (.int (0 : Int32)), (.int (0 : Int32)), (.int (0 : Int32)), (.int (0 : Int32)), (.int (0 : Int32)), (.int (0 : Int32)), (.int (0 : Int32)), (.int (0 : Int32))] (.int (0 : Int32)))
  refine g_dup C (pc' := 108) at_107 rfl rfl rfl ?_
  refine g_bipush C (pc' := 110) (v := (19 : Int32)) at_108 (by decide) rfl ?_
  refine g_bipush C (pc' := 112) (v := (-2 : Int32)) at_110 (by decide) rfl ?_
  refine g_iastore C (pc' := 113) at_112 rfl f84 (by decide) (by decide) ge_b2 rfl (fun h85 W86 => ?_)
  have f87 := f83.wr W86 ge_b2
  have f88 := (arv_put f84 rfl W86 (i := 19) rfl (Nat.le_of_ble_eq_true rfl) : Arv Z h85 b2 kA3 .int (45 : Int32) [(.int (1 : Int32)), (.int (12 : Int32)), (.int (-1 : Int32)), (.int (-15 : Int32)), (.int (-9 : Int32)), (.int (-16 : Int32)), (.int (2005 : Int32)), (.int (2011 : Int32)), (.int (-6 : Int32)), (.int (5 : Int32)), (.int (4 : Int32)), (.int (-5 : Int32)), (.int (0 : Int32)), (.int (2 : Int32)), (.int (3 : Int32)), (.int (6 : Int32)), (.int (7 : Int32)), (.int (8 : Int32)), (.int (-7 : Int32)), (.int (-2 : Int32)), (.int (0 : Int32)), (.int (0 : Int32)), (.int (0 : Int32)), (.int (0 : Int32)), (.int (0 : Int32)), (.int (0 : Int32)), (.int (0 : Int32)), (.int (0 : Int32)), (.int (0 : Int32)), (.int (0 : Int32)), (.int (0 : Int32)), (.int (0 : Int32)), (.int (0 : Int32)), (.int (0 : Int32)), (.int (0 : Int32)), (.int (0 : Int32)), (.int (0 : Int32)), (.int (0 : Int32)), (.int (0 : Int32)), (.int (0 : Int32)), (.int (0 : Int32)), (.int (0 : Int32)), (.int (0 : Int32)), (.int (0 : Int32)), (.int (0 : Int32))] (.int (0 : Int32)))
  refine g_dup C (pc' := 114) at_113 rfl rfl rfl ?_
  refine g_bipush C (pc' := 116) (v := (20 : Int32)) at_114 (by decide) rfl ?_
  refine g_bipush C (pc' := 118) (v := (-3 : Int32)) at_116 (by decide) rfl ?_
  refine g_iastore C (pc' := 119) at_118 rfl f88 (by decide) (by decide) ge_b2 rfl (fun h89 W90 => ?_)
  have f91 := f87.wr W90 ge_b2
  have f92 := (arv_put f88 rfl W90 (i := 20) rfl (Nat.le_of_ble_eq_true rfl) : Arv Z h89 b2 kA3 .int (45 : Int32) [(.int (1 : Int32)), (.int (12 : Int32)), (.int (-1 : Int32)), (.int (-15 : Int32)), (.int (-9 : Int32)), (.int (-16 : Int32)), (.int (2005 : Int32)), (.int (2011 : Int32)), (.int (-6 : Int32)), (.int (5 : Int32)), (.int (4 : Int32)), (.int (-5 : Int32)), (.int (0 : Int32)), (.int (2 : Int32)), (.int (3 : Int32)), (.int (6 : Int32)), (.int (7 : Int32)), (.int (8 : Int32)), (.int (-7 : Int32)), (.int (-2 : Int32)), (.int (-3 : Int32)), (.int (0 : Int32)), (.int (0 : Int32)), (.int (0 : Int32)), (.int (0 : Int32)), (.int (0 : Int32)), (.int (0 : Int32)), (.int (0 : Int32)), (.int (0 : Int32)), (.int (0 : Int32)), (.int (0 : Int32)), (.int (0 : Int32)), (.int (0 : Int32)), (.int (0 : Int32)), (.int (0 : Int32)), (.int (0 : Int32)), (.int (0 : Int32)), (.int (0 : Int32)), (.int (0 : Int32)), (.int (0 : Int32)), (.int (0 : Int32)), (.int (0 : Int32)), (.int (0 : Int32)), (.int (0 : Int32)), (.int (0 : Int32))] (.int (0 : Int32)))
  refine g_dup C (pc' := 120) at_119 rfl rfl rfl ?_
  refine g_bipush C (pc' := 122) (v := (21 : Int32)) at_120 (by decide) rfl ?_
  refine g_bipush C (pc' := 124) (v := (-4 : Int32)) at_122 (by decide) rfl ?_
  refine g_iastore C (pc' := 125) at_124 rfl f92 (by decide) (by decide) ge_b2 rfl (fun h93 W94 => ?_)
  have f95 := f91.wr W94 ge_b2
  have f96 := (arv_put f92 rfl W94 (i := 21) rfl (Nat.le_of_ble_eq_true rfl) : Arv Z h93 b2 kA3 .int (45 : Int32) [(.int (1 : Int32)), (.int (12 : Int32)), (.int (-1 : Int32)), (.int (-15 : Int32)), (.int (-9 : Int32)), (.int (-16 : Int32)), (.int (2005 : Int32)), (.int (2011 : Int32)), (.int (-6 : Int32)), (.int (5 : Int32)), (.int (4 : Int32)), (.int (-5 : Int32)), (.int (0 : Int32)), (.int (2 : Int32)), (.int (3 : Int32)), (.int (6 : Int32)), (.int (7 : Int32)), (.int (8 : Int32)), (.int (-7 : Int32)), (.int (-2 : Int32)), (.int (-3 : Int32)), (.int (-4 : Int32)), (.int (0 : Int32)), (.int (0 : Int32)), (.int (0 : Int32)), (.int (0 : Int32)), (.int (0 : Int32)), (.int (0 : Int32)), (.int (0 : Int32)), (.int (0 : Int32)), (.int (0 : Int32)), (.int (0 : Int32)), (.int (0 : Int32)), (.int (0 : Int32)), (.int (0 : Int32)), (.int (0 : Int32)), (.int (0 : Int32)), (.int (0 : Int32)), (.int (0 : Int32)), (.int (0 : Int32)), (.int (0 : Int32)), (.int (0 : Int32)), (.int (0 : Int32)), (.int (0 : Int32)), (.int (0 : Int32))] (.int (0 : Int32)))
  refine g_dup C (pc' := 126) at_125 rfl rfl rfl ?_
  refine g_bipush C (pc' := 128) (v := (22 : Int32)) at_126 (by decide) rfl ?_
  refine g_bipush C (pc' := 130) (v := (-8 : Int32)) at_128 (by decide) rfl ?_
  refine g_iastore C (pc' := 131) at_130 rfl f96 (by decide) (by decide) ge_b2 rfl (fun h97 W98 => ?_)
  have f99 := f95.wr W98 ge_b2
  have f100 := (arv_put f96 rfl W98 (i := 22) rfl (Nat.le_of_ble_eq_true rfl) : Arv Z h97 b2 kA3 .int (45 : Int32) [(.int (1 : Int32)), (.int (12 : Int32)), (.int (-1 : Int32)), (.int (-15 : Int32)), (.int (-9 : Int32)), (.int (-16 : Int32)), (.int (2005 : Int32)), (.int (2011 : Int32)), (.int (-6 : Int32)), (.int (5 : Int32)), (.int (4 : Int32)), (.int (-5 : Int32)), (.int (0 : Int32)), (.int (2 : Int32)), (.int (3 : Int32)), (.int (6 : Int32)), (.int (7 : Int32)), (.int (8 : Int32)), (.int (-7 : Int32)), (.int (-2 : Int32)), (.int (-3 : Int32)), (.int (-4 : Int32)), (.int (-8 : Int32)), (.int (0 : Int32)), (.int (0 : Int32)), (.int (0 : Int32)), (.int (0 : Int32)), (.int (0 : Int32)), (.int (0 : Int32)), (.int (0 : Int32)), (.int (0 : Int32)), (.int (0 : Int32)), (.int (0 : Int32)), (.int (0 : Int32)), (.int (0 : Int32)), (.int (0 : Int32)), (.int (0 : Int32)), (.int (0 : Int32)), (.int (0 : Int32)), (.int (0 : Int32)), (.int (0 : Int32)), (.int (0 : Int32)), (.int (0 : Int32)), (.int (0 : Int32)), (.int (0 : Int32))] (.int (0 : Int32)))
  refine g_dup C (pc' := 132) at_131 rfl rfl rfl ?_
  refine g_bipush C (pc' := 134) (v := (23 : Int32)) at_132 (by decide) rfl ?_
  refine g_bipush C (pc' := 136) (v := (-10 : Int32)) at_134 (by decide) rfl ?_
  refine g_iastore C (pc' := 137) at_136 rfl f100 (by decide) (by decide) ge_b2 rfl (fun h101 W102 => ?_)
  have f103 := f99.wr W102 ge_b2
  have f104 := (arv_put f100 rfl W102 (i := 23) rfl (Nat.le_of_ble_eq_true rfl) : Arv Z h101 b2 kA3 .int (45 : Int32) [(.int (1 : Int32)), (.int (12 : Int32)), (.int (-1 : Int32)), (.int (-15 : Int32)), (.int (-9 : Int32)), (.int (-16 : Int32)), (.int (2005 : Int32)), (.int (2011 : Int32)), (.int (-6 : Int32)), (.int (5 : Int32)), (.int (4 : Int32)), (.int (-5 : Int32)), (.int (0 : Int32)), (.int (2 : Int32)), (.int (3 : Int32)), (.int (6 : Int32)), (.int (7 : Int32)), (.int (8 : Int32)), (.int (-7 : Int32)), (.int (-2 : Int32)), (.int (-3 : Int32)), (.int (-4 : Int32)), (.int (-8 : Int32)), (.int (-10 : Int32)), (.int (0 : Int32)), (.int (0 : Int32)), (.int (0 : Int32)), (.int (0 : Int32)), (.int (0 : Int32)), (.int (0 : Int32)), (.int (0 : Int32)), (.int (0 : Int32)), (.int (0 : Int32)), (.int (0 : Int32)), (.int (0 : Int32)), (.int (0 : Int32)), (.int (0 : Int32)), (.int (0 : Int32)), (.int (0 : Int32)), (.int (0 : Int32)), (.int (0 : Int32)), (.int (0 : Int32)), (.int (0 : Int32)), (.int (0 : Int32)), (.int (0 : Int32))] (.int (0 : Int32)))
  refine g_dup C (pc' := 138) at_137 rfl rfl rfl ?_
  refine g_bipush C (pc' := 140) (v := (24 : Int32)) at_138 (by decide) rfl ?_
  refine g_bipush C (pc' := 142) (v := (11 : Int32)) at_140 (by decide) rfl ?_
  refine g_iastore C (pc' := 143) at_142 rfl f104 (by decide) (by decide) ge_b2 rfl (fun h105 W106 => ?_)
  have f107 := f103.wr W106 ge_b2
  have f108 := (arv_put f104 rfl W106 (i := 24) rfl (Nat.le_of_ble_eq_true rfl) : Arv Z h105 b2 kA3 .int (45 : Int32) [(.int (1 : Int32)), (.int (12 : Int32)), (.int (-1 : Int32)), (.int (-15 : Int32)), (.int (-9 : Int32)), (.int (-16 : Int32)), (.int (2005 : Int32)), (.int (2011 : Int32)), (.int (-6 : Int32)), (.int (5 : Int32)), (.int (4 : Int32)), (.int (-5 : Int32)), (.int (0 : Int32)), (.int (2 : Int32)), (.int (3 : Int32)), (.int (6 : Int32)), (.int (7 : Int32)), (.int (8 : Int32)), (.int (-7 : Int32)), (.int (-2 : Int32)), (.int (-3 : Int32)), (.int (-4 : Int32)), (.int (-8 : Int32)), (.int (-10 : Int32)), (.int (11 : Int32)), (.int (0 : Int32)), (.int (0 : Int32)), (.int (0 : Int32)), (.int (0 : Int32)), (.int (0 : Int32)), (.int (0 : Int32)), (.int (0 : Int32)), (.int (0 : Int32)), (.int (0 : Int32)), (.int (0 : Int32)), (.int (0 : Int32)), (.int (0 : Int32)), (.int (0 : Int32)), (.int (0 : Int32)), (.int (0 : Int32)), (.int (0 : Int32)), (.int (0 : Int32)), (.int (0 : Int32)), (.int (0 : Int32)), (.int (0 : Int32))] (.int (0 : Int32)))
  refine g_dup C (pc' := 144) at_143 rfl rfl rfl ?_
  refine g_bipush C (pc' := 146) (v := (25 : Int32)) at_144 (by decide) rfl ?_
  refine g_bipush C (pc' := 148) (v := (13 : Int32)) at_146 (by decide) rfl ?_
  refine g_iastore C (pc' := 149) at_148 rfl f108 (by decide) (by decide) ge_b2 rfl (fun h109 W110 => ?_)
  have f111 := f107.wr W110 ge_b2
  have f112 := (arv_put f108 rfl W110 (i := 25) rfl (Nat.le_of_ble_eq_true rfl) : Arv Z h109 b2 kA3 .int (45 : Int32) [(.int (1 : Int32)), (.int (12 : Int32)), (.int (-1 : Int32)), (.int (-15 : Int32)), (.int (-9 : Int32)), (.int (-16 : Int32)), (.int (2005 : Int32)), (.int (2011 : Int32)), (.int (-6 : Int32)), (.int (5 : Int32)), (.int (4 : Int32)), (.int (-5 : Int32)), (.int (0 : Int32)), (.int (2 : Int32)), (.int (3 : Int32)), (.int (6 : Int32)), (.int (7 : Int32)), (.int (8 : Int32)), (.int (-7 : Int32)), (.int (-2 : Int32)), (.int (-3 : Int32)), (.int (-4 : Int32)), (.int (-8 : Int32)), (.int (-10 : Int32)), (.int (11 : Int32)), (.int (13 : Int32)), (.int (0 : Int32)), (.int (0 : Int32)), (.int (0 : Int32)), (.int (0 : Int32)), (.int (0 : Int32)), (.int (0 : Int32)), (.int (0 : Int32)), (.int (0 : Int32)), (.int (0 : Int32)), (.int (0 : Int32)), (.int (0 : Int32)), (.int (0 : Int32)), (.int (0 : Int32)), (.int (0 : Int32)), (.int (0 : Int32)), (.int (0 : Int32)), (.int (0 : Int32)), (.int (0 : Int32)), (.int (0 : Int32))] (.int (0 : Int32)))
  refine g_dup C (pc' := 150) at_149 rfl rfl rfl ?_
  refine g_bipush C (pc' := 152) (v := (26 : Int32)) at_150 (by decide) rfl ?_
  refine g_bipush C (pc' := 154) (v := (16 : Int32)) at_152 (by decide) rfl ?_
  refine g_iastore C (pc' := 155) at_154 rfl f112 (by decide) (by decide) ge_b2 rfl (fun h113 W114 => ?_)
  have f115 := f111.wr W114 ge_b2
  have f116 := (arv_put f112 rfl W114 (i := 26) rfl (Nat.le_of_ble_eq_true rfl) : Arv Z h113 b2 kA3 .int (45 : Int32) [(.int (1 : Int32)), (.int (12 : Int32)), (.int (-1 : Int32)), (.int (-15 : Int32)), (.int (-9 : Int32)), (.int (-16 : Int32)), (.int (2005 : Int32)), (.int (2011 : Int32)), (.int (-6 : Int32)), (.int (5 : Int32)), (.int (4 : Int32)), (.int (-5 : Int32)), (.int (0 : Int32)), (.int (2 : Int32)), (.int (3 : Int32)), (.int (6 : Int32)), (.int (7 : Int32)), (.int (8 : Int32)), (.int (-7 : Int32)), (.int (-2 : Int32)), (.int (-3 : Int32)), (.int (-4 : Int32)), (.int (-8 : Int32)), (.int (-10 : Int32)), (.int (11 : Int32)), (.int (13 : Int32)), (.int (16 : Int32)), (.int (0 : Int32)), (.int (0 : Int32)), (.int (0 : Int32)), (.int (0 : Int32)), (.int (0 : Int32)), (.int (0 : Int32)), (.int (0 : Int32)), (.int (0 : Int32)), (.int (0 : Int32)), (.int (0 : Int32)), (.int (0 : Int32)), (.int (0 : Int32)), (.int (0 : Int32)), (.int (0 : Int32)), (.int (0 : Int32)), (.int (0 : Int32)), (.int (0 : Int32)), (.int (0 : Int32))] (.int (0 : Int32)))
  refine g_dup C (pc' := 156) at_155 rfl rfl rfl ?_
  refine g_bipush C (pc' := 158) (v := (27 : Int32)) at_156 (by decide) rfl ?_
  refine g_bipush C (pc' := 160) (v := (70 : Int32)) at_158 (by decide) rfl ?_
  refine g_iastore C (pc' := 161) at_160 rfl f116 (by decide) (by decide) ge_b2 rfl (fun h117 W118 => ?_)
  have f119 := f115.wr W118 ge_b2
  have f120 := (arv_put f116 rfl W118 (i := 27) rfl (Nat.le_of_ble_eq_true rfl) : Arv Z h117 b2 kA3 .int (45 : Int32) [(.int (1 : Int32)), (.int (12 : Int32)), (.int (-1 : Int32)), (.int (-15 : Int32)), (.int (-9 : Int32)), (.int (-16 : Int32)), (.int (2005 : Int32)), (.int (2011 : Int32)), (.int (-6 : Int32)), (.int (5 : Int32)), (.int (4 : Int32)), (.int (-5 : Int32)), (.int (0 : Int32)), (.int (2 : Int32)), (.int (3 : Int32)), (.int (6 : Int32)), (.int (7 : Int32)), (.int (8 : Int32)), (.int (-7 : Int32)), (.int (-2 : Int32)), (.int (-3 : Int32)), (.int (-4 : Int32)), (.int (-8 : Int32)), (.int (-10 : Int32)), (.int (11 : Int32)), (.int (13 : Int32)), (.int (16 : Int32)), (.int (70 : Int32)), (.int (0 : Int32)), (.int (0 : Int32)), (.int (0 : Int32)), (.int (0 : Int32)), (.int (0 : Int32)), (.int (0 : Int32)), (.int (0 : Int32)), (.int (0 : Int32)), (.int (0 : Int32)), (.int (0 : Int32)), (.int (0 : Int32)), (.int (0 : Int32)), (.int (0 : Int32)), (.int (0 : Int32)), (.int (0 : Int32)), (.int (0 : Int32)), (.int (0 : Int32))] (.int (0 : Int32)))
  refine g_dup C (pc' := 162) at_161 rfl rfl rfl ?_
  refine g_bipush C (pc' := 164) (v := (28 : Int32)) at_162 (by decide) rfl ?_
  refine g_bipush C (pc' := 166) (v := (91 : Int32)) at_164 (by decide) rfl ?_
  refine g_iastore C (pc' := 167) at_166 rfl f120 (by decide) (by decide) ge_b2 rfl (fun h121 W122 => ?_)
  have f123 := f119.wr W122 ge_b2
  have f124 := (arv_put f120 rfl W122 (i := 28) rfl (Nat.le_of_ble_eq_true rfl) : Arv Z h121 b2 kA3 .int (45 : Int32) [(.int (1 : Int32)), (.int (12 : Int32)), (.int (-1 : Int32)), (.int (-15 : Int32)), (.int (-9 : Int32)), (.int (-16 : Int32)), (.int (2005 : Int32)), (.int (2011 : Int32)), (.int (-6 : Int32)), (.int (5 : Int32)), (.int (4 : Int32)), (.int (-5 : Int32)), (.int (0 : Int32)), (.int (2 : Int32)), (.int (3 : Int32)), (.int (6 : Int32)), (.int (7 : Int32)), (.int (8 : Int32)), (.int (-7 : Int32)), (.int (-2 : Int32)), (.int (-3 : Int32)), (.int (-4 : Int32)), (.int (-8 : Int32)), (.int (-10 : Int32)), (.int (11 : Int32)), (.int (13 : Int32)), (.int (16 : Int32)), (.int (70 : Int32)), (.int (91 : Int32)), (.int (0 : Int32)), (.int (0 : Int32)), (.int (0 : Int32)), (.int (0 : Int32)), (.int (0 : Int32)), (.int (0 : Int32)), (.int (0 : Int32)), (.int (0 : Int32)), (.int (0 : Int32)), (.int (0 : Int32)), (.int (0 : Int32)), (.int (0 : Int32)), (.int (0 : Int32)), (.int (0 : Int32)), (.int (0 : Int32)), (.int (0 : Int32))] (.int (0 : Int32)))
  refine g_dup C (pc' := 168) at_167 rfl rfl rfl ?_
  refine g_bipush C (pc' := 170) (v := (29 : Int32)) at_168 (by decide) rfl ?_
  refine g_bipush C (pc' := 172) (v := (92 : Int32)) at_170 (by decide) rfl ?_
  refine g_iastore C (pc' := 173) at_172 rfl f124 (by decide) (by decide) ge_b2 rfl (fun h125 W126 => ?_)
  have f127 := f123.wr W126 ge_b2
  have f128 := (arv_put f124 rfl W126 (i := 29) rfl (Nat.le_of_ble_eq_true rfl) : Arv Z h125 b2 kA3 .int (45 : Int32) [(.int (1 : Int32)), (.int (12 : Int32)), (.int (-1 : Int32)), (.int (-15 : Int32)), (.int (-9 : Int32)), (.int (-16 : Int32)), (.int (2005 : Int32)), (.int (2011 : Int32)), (.int (-6 : Int32)), (.int (5 : Int32)), (.int (4 : Int32)), (.int (-5 : Int32)), (.int (0 : Int32)), (.int (2 : Int32)), (.int (3 : Int32)), (.int (6 : Int32)), (.int (7 : Int32)), (.int (8 : Int32)), (.int (-7 : Int32)), (.int (-2 : Int32)), (.int (-3 : Int32)), (.int (-4 : Int32)), (.int (-8 : Int32)), (.int (-10 : Int32)), (.int (11 : Int32)), (.int (13 : Int32)), (.int (16 : Int32)), (.int (70 : Int32)), (.int (91 : Int32)), (.int (92 : Int32)), (.int (0 : Int32)), (.int (0 : Int32)), (.int (0 : Int32)), (.int (0 : Int32)), (.int (0 : Int32)), (.int (0 : Int32)), (.int (0 : Int32)), (.int (0 : Int32)), (.int (0 : Int32)), (.int (0 : Int32)), (.int (0 : Int32)), (.int (0 : Int32)), (.int (0 : Int32)), (.int (0 : Int32)), (.int (0 : Int32))] (.int (0 : Int32)))
  refine g_dup C (pc' := 174) at_173 rfl rfl rfl ?_
  refine g_bipush C (pc' := 176) (v := (30 : Int32)) at_174 (by decide) rfl ?_
  refine g_bipush C (pc' := 178) (v := (93 : Int32)) at_176 (by decide) rfl ?_
  refine g_iastore C (pc' := 179) at_178 rfl f128 (by decide) (by decide) ge_b2 rfl (fun h129 W130 => ?_)
  have f131 := f127.wr W130 ge_b2
  have f132 := (arv_put f128 rfl W130 (i := 30) rfl (Nat.le_of_ble_eq_true rfl) : Arv Z h129 b2 kA3 .int (45 : Int32) [(.int (1 : Int32)), (.int (12 : Int32)), (.int (-1 : Int32)), (.int (-15 : Int32)), (.int (-9 : Int32)), (.int (-16 : Int32)), (.int (2005 : Int32)), (.int (2011 : Int32)), (.int (-6 : Int32)), (.int (5 : Int32)), (.int (4 : Int32)), (.int (-5 : Int32)), (.int (0 : Int32)), (.int (2 : Int32)), (.int (3 : Int32)), (.int (6 : Int32)), (.int (7 : Int32)), (.int (8 : Int32)), (.int (-7 : Int32)), (.int (-2 : Int32)), (.int (-3 : Int32)), (.int (-4 : Int32)), (.int (-8 : Int32)), (.int (-10 : Int32)), (.int (11 : Int32)), (.int (13 : Int32)), (.int (16 : Int32)), (.int (70 : Int32)), (.int (91 : Int32)), (.int (92 : Int32)), (.int (93 : Int32)), (.int (0 : Int32)), (.int (0 : Int32)), (.int (0 : Int32)), (.int (0 : Int32)), (.int (0 : Int32)), (.int (0 : Int32)), (.int (0 : Int32)), (.int (0 : Int32)), (.int (0 : Int32)), (.int (0 : Int32)), (.int (0 : Int32)), (.int (0 : Int32)), (.int (0 : Int32)), (.int (0 : Int32))] (.int (0 : Int32)))
  refine g_dup C (pc' := 180) at_179 rfl rfl rfl ?_
  refine g_bipush C (pc' := 182) (v := (31 : Int32)) at_180 (by decide) rfl ?_
  refine g_sipush C (pc' := 185) (v := (1111 : Int32)) at_182 (by decide) rfl ?_
  refine g_iastore C (pc' := 186) at_185 rfl f132 (by decide) (by decide) ge_b2 rfl (fun h133 W134 => ?_)
  have f135 := f131.wr W134 ge_b2
  have f136 := (arv_put f132 rfl W134 (i := 31) rfl (Nat.le_of_ble_eq_true rfl) : Arv Z h133 b2 kA3 .int (45 : Int32) [(.int (1 : Int32)), (.int (12 : Int32)), (.int (-1 : Int32)), (.int (-15 : Int32)), (.int (-9 : Int32)), (.int (-16 : Int32)), (.int (2005 : Int32)), (.int (2011 : Int32)), (.int (-6 : Int32)), (.int (5 : Int32)), (.int (4 : Int32)), (.int (-5 : Int32)), (.int (0 : Int32)), (.int (2 : Int32)), (.int (3 : Int32)), (.int (6 : Int32)), (.int (7 : Int32)), (.int (8 : Int32)), (.int (-7 : Int32)), (.int (-2 : Int32)), (.int (-3 : Int32)), (.int (-4 : Int32)), (.int (-8 : Int32)), (.int (-10 : Int32)), (.int (11 : Int32)), (.int (13 : Int32)), (.int (16 : Int32)), (.int (70 : Int32)), (.int (91 : Int32)), (.int (92 : Int32)), (.int (93 : Int32)), (.int (1111 : Int32)), (.int (0 : Int32)), (.int (0 : Int32)), (.int (0 : Int32)), (.int (0 : Int32)), (.int (0 : Int32)), (.int (0 : Int32)), (.int (0 : Int32)), (.int (0 : Int32)), (.int (0 : Int32)), (.int (0 : Int32)), (.int (0 : Int32)), (.int (0 : Int32)), (.int (0 : Int32))] (.int (0 : Int32)))
  refine g_dup C (pc' := 187) at_186 rfl rfl rfl ?_
  refine g_bipush C (pc' := 189) (v := (32 : Int32)) at_187 (by decide) rfl ?_
  refine g_sipush C (pc' := 192) (v := (2000 : Int32)) at_189 (by decide) rfl ?_
  refine g_iastore C (pc' := 193) at_192 rfl f136 (by decide) (by decide) ge_b2 rfl (fun h137 W138 => ?_)
  have f139 := f135.wr W138 ge_b2
  have f140 := (arv_put f136 rfl W138 (i := 32) rfl (Nat.le_of_ble_eq_true rfl) : Arv Z h137 b2 kA3 .int (45 : Int32) [(.int (1 : Int32)), (.int (12 : Int32)), (.int (-1 : Int32)), (.int (-15 : Int32)), (.int (-9 : Int32)), (.int (-16 : Int32)), (.int (2005 : Int32)), (.int (2011 : Int32)), (.int (-6 : Int32)), (.int (5 : Int32)), (.int (4 : Int32)), (.int (-5 : Int32)), (.int (0 : Int32)), (.int (2 : Int32)), (.int (3 : Int32)), (.int (6 : Int32)), (.int (7 : Int32)), (.int (8 : Int32)), (.int (-7 : Int32)), (.int (-2 : Int32)), (.int (-3 : Int32)), (.int (-4 : Int32)), (.int (-8 : Int32)), (.int (-10 : Int32)), (.int (11 : Int32)), (.int (13 : Int32)), (.int (16 : Int32)), (.int (70 : Int32)), (.int (91 : Int32)), (.int (92 : Int32)), (.int (93 : Int32)), (.int (1111 : Int32)), (.int (2000 : Int32)), (.int (0 : Int32)), (.int (0 : Int32)), (.int (0 : Int32)), (.int (0 : Int32)), (.int (0 : Int32)), (.int (0 : Int32)), (.int (0 : Int32)), (.int (0 : Int32)), (.int (0 : Int32)), (.int (0 : Int32)), (.int (0 : Int32)), (.int (0 : Int32))] (.int (0 : Int32)))
  refine g_dup C (pc' := 194) at_193 rfl rfl rfl ?_
  refine g_bipush C (pc' := 196) (v := (33 : Int32)) at_194 (by decide) rfl ?_
  refine g_sipush C (pc' := 199) (v := (2001 : Int32)) at_196 (by decide) rfl ?_
  refine g_iastore C (pc' := 200) at_199 rfl f140 (by decide) (by decide) ge_b2 rfl (fun h141 W142 => ?_)
  have f143 := f139.wr W142 ge_b2
  have f144 := (arv_put f140 rfl W142 (i := 33) rfl (Nat.le_of_ble_eq_true rfl) : Arv Z h141 b2 kA3 .int (45 : Int32) [(.int (1 : Int32)), (.int (12 : Int32)), (.int (-1 : Int32)), (.int (-15 : Int32)), (.int (-9 : Int32)), (.int (-16 : Int32)), (.int (2005 : Int32)), (.int (2011 : Int32)), (.int (-6 : Int32)), (.int (5 : Int32)), (.int (4 : Int32)), (.int (-5 : Int32)), (.int (0 : Int32)), (.int (2 : Int32)), (.int (3 : Int32)), (.int (6 : Int32)), (.int (7 : Int32)), (.int (8 : Int32)), (.int (-7 : Int32)), (.int (-2 : Int32)), (.int (-3 : Int32)), (.int (-4 : Int32)), (.int (-8 : Int32)), (.int (-10 : Int32)), (.int (11 : Int32)), (.int (13 : Int32)), (.int (16 : Int32)), (.int (70 : Int32)), (.int (91 : Int32)), (.int (92 : Int32)), (.int (93 : Int32)), (.int (1111 : Int32)), (.int (2000 : Int32)), (.int (2001 : Int32)), (.int (0 : Int32)), (.int (0 : Int32)), (.int (0 : Int32)), (.int (0 : Int32)), (.int (0 : Int32)), (.int (0 : Int32)), (.int (0 : Int32)), (.int (0 : Int32)), (.int (0 : Int32)), (.int (0 : Int32)), (.int (0 : Int32))] (.int (0 : Int32)))
  refine g_dup C (pc' := 201) at_200 rfl rfl rfl ?_
  refine g_bipush C (pc' := 203) (v := (34 : Int32)) at_201 (by decide) rfl ?_
  refine g_sipush C (pc' := 206) (v := (2002 : Int32)) at_203 (by decide) rfl ?_
  refine g_iastore C (pc' := 207) at_206 rfl f144 (by decide) (by decide) ge_b2 rfl (fun h145 W146 => ?_)
  have f147 := f143.wr W146 ge_b2
  have f148 := (arv_put f144 rfl W146 (i := 34) rfl (Nat.le_of_ble_eq_true rfl) : Arv Z h145 b2 kA3 .int (45 : Int32) [(.int (1 : Int32)), (.int (12 : Int32)), (.int (-1 : Int32)), (.int (-15 : Int32)), (.int (-9 : Int32)), (.int (-16 : Int32)), (.int (2005 : Int32)), (.int (2011 : Int32)), (.int (-6 : Int32)), (.int (5 : Int32)), (.int (4 : Int32)), (.int (-5 : Int32)), (.int (0 : Int32)), (.int (2 : Int32)), (.int (3 : Int32)), (.int (6 : Int32)), (.int (7 : Int32)), (.int (8 : Int32)), (.int (-7 : Int32)), (.int (-2 : Int32)), (.int (-3 : Int32)), (.int (-4 : Int32)), (.int (-8 : Int32)), (.int (-10 : Int32)), (.int (11 : Int32)), (.int (13 : Int32)), (.int (16 : Int32)), (.int (70 : Int32)), (.int (91 : Int32)), (.int (92 : Int32)), (.int (93 : Int32)), (.int (1111 : Int32)), (.int (2000 : Int32)), (.int (2001 : Int32)), (.int (2002 : Int32)), (.int (0 : Int32)), (.int (0 : Int32)), (.int (0 : Int32)), (.int (0 : Int32)), (.int (0 : Int32)), (.int (0 : Int32)), (.int (0 : Int32)), (.int (0 : Int32)), (.int (0 : Int32)), (.int (0 : Int32))] (.int (0 : Int32)))
  refine g_dup C (pc' := 208) at_207 rfl rfl rfl ?_
  refine g_bipush C (pc' := 210) (v := (35 : Int32)) at_208 (by decide) rfl ?_
  refine g_sipush C (pc' := 213) (v := (2003 : Int32)) at_210 (by decide) rfl ?_
  refine g_iastore C (pc' := 214) at_213 rfl f148 (by decide) (by decide) ge_b2 rfl (fun h149 W150 => ?_)
  have f151 := f147.wr W150 ge_b2
  have f152 := (arv_put f148 rfl W150 (i := 35) rfl (Nat.le_of_ble_eq_true rfl) : Arv Z h149 b2 kA3 .int (45 : Int32) [(.int (1 : Int32)), (.int (12 : Int32)), (.int (-1 : Int32)), (.int (-15 : Int32)), (.int (-9 : Int32)), (.int (-16 : Int32)), (.int (2005 : Int32)), (.int (2011 : Int32)), (.int (-6 : Int32)), (.int (5 : Int32)), (.int (4 : Int32)), (.int (-5 : Int32)), (.int (0 : Int32)), (.int (2 : Int32)), (.int (3 : Int32)), (.int (6 : Int32)), (.int (7 : Int32)), (.int (8 : Int32)), (.int (-7 : Int32)), (.int (-2 : Int32)), (.int (-3 : Int32)), (.int (-4 : Int32)), (.int (-8 : Int32)), (.int (-10 : Int32)), (.int (11 : Int32)), (.int (13 : Int32)), (.int (16 : Int32)), (.int (70 : Int32)), (.int (91 : Int32)), (.int (92 : Int32)), (.int (93 : Int32)), (.int (1111 : Int32)), (.int (2000 : Int32)), (.int (2001 : Int32)), (.int (2002 : Int32)), (.int (2003 : Int32)), (.int (0 : Int32)), (.int (0 : Int32)), (.int (0 : Int32)), (.int (0 : Int32)), (.int (0 : Int32)), (.int (0 : Int32)), (.int (0 : Int32)), (.int (0 : Int32)), (.int (0 : Int32))] (.int (0 : Int32)))
  refine g_dup C (pc' := 215) at_214 rfl rfl rfl ?_
  refine g_bipush C (pc' := 217) (v := (36 : Int32)) at_215 (by decide) rfl ?_
  refine g_sipush C (pc' := 220) (v := (2004 : Int32)) at_217 (by decide) rfl ?_
  refine g_iastore C (pc' := 221) at_220 rfl f152 (by decide) (by decide) ge_b2 rfl (fun h153 W154 => ?_)
  have f155 := f151.wr W154 ge_b2
  have f156 := (arv_put f152 rfl W154 (i := 36) rfl (Nat.le_of_ble_eq_true rfl) : Arv Z h153 b2 kA3 .int (45 : Int32) [(.int (1 : Int32)), (.int (12 : Int32)), (.int (-1 : Int32)), (.int (-15 : Int32)), (.int (-9 : Int32)), (.int (-16 : Int32)), (.int (2005 : Int32)), (.int (2011 : Int32)), (.int (-6 : Int32)), (.int (5 : Int32)), (.int (4 : Int32)), (.int (-5 : Int32)), (.int (0 : Int32)), (.int (2 : Int32)), (.int (3 : Int32)), (.int (6 : Int32)), (.int (7 : Int32)), (.int (8 : Int32)), (.int (-7 : Int32)), (.int (-2 : Int32)), (.int (-3 : Int32)), (.int (-4 : Int32)), (.int (-8 : Int32)), (.int (-10 : Int32)), (.int (11 : Int32)), (.int (13 : Int32)), (.int (16 : Int32)), (.int (70 : Int32)), (.int (91 : Int32)), (.int (92 : Int32)), (.int (93 : Int32)), (.int (1111 : Int32)), (.int (2000 : Int32)), (.int (2001 : Int32)), (.int (2002 : Int32)), (.int (2003 : Int32)), (.int (2004 : Int32)), (.int (0 : Int32)), (.int (0 : Int32)), (.int (0 : Int32)), (.int (0 : Int32)), (.int (0 : Int32)), (.int (0 : Int32)), (.int (0 : Int32)), (.int (0 : Int32))] (.int (0 : Int32)))
  refine g_dup C (pc' := 222) at_221 rfl rfl rfl ?_
  refine g_bipush C (pc' := 224) (v := (37 : Int32)) at_222 (by decide) rfl ?_
  refine g_sipush C (pc' := 227) (v := (2006 : Int32)) at_224 (by decide) rfl ?_
  refine g_iastore C (pc' := 228) at_227 rfl f156 (by decide) (by decide) ge_b2 rfl (fun h157 W158 => ?_)
  have f159 := f155.wr W158 ge_b2
  have f160 := (arv_put f156 rfl W158 (i := 37) rfl (Nat.le_of_ble_eq_true rfl) : Arv Z h157 b2 kA3 .int (45 : Int32) [(.int (1 : Int32)), (.int (12 : Int32)), (.int (-1 : Int32)), (.int (-15 : Int32)), (.int (-9 : Int32)), (.int (-16 : Int32)), (.int (2005 : Int32)), (.int (2011 : Int32)), (.int (-6 : Int32)), (.int (5 : Int32)), (.int (4 : Int32)), (.int (-5 : Int32)), (.int (0 : Int32)), (.int (2 : Int32)), (.int (3 : Int32)), (.int (6 : Int32)), (.int (7 : Int32)), (.int (8 : Int32)), (.int (-7 : Int32)), (.int (-2 : Int32)), (.int (-3 : Int32)), (.int (-4 : Int32)), (.int (-8 : Int32)), (.int (-10 : Int32)), (.int (11 : Int32)), (.int (13 : Int32)), (.int (16 : Int32)), (.int (70 : Int32)), (.int (91 : Int32)), (.int (92 : Int32)), (.int (93 : Int32)), (.int (1111 : Int32)), (.int (2000 : Int32)), (.int (2001 : Int32)), (.int (2002 : Int32)), (.int (2003 : Int32)), (.int (2004 : Int32)), (.int (2006 : Int32)), (.int (0 : Int32)), (.int (0 : Int32)), (.int (0 : Int32)), (.int (0 : Int32)), (.int (0 : Int32)), (.int (0 : Int32)), (.int (0 : Int32))] (.int (0 : Int32)))
  refine g_dup C (pc' := 229) at_228 rfl rfl rfl ?_
  refine g_bipush C (pc' := 231) (v := (38 : Int32)) at_229 (by decide) rfl ?_
  refine g_sipush C (pc' := 234) (v := (2009 : Int32)) at_231 (by decide) rfl ?_
  refine g_iastore C (pc' := 235) at_234 rfl f160 (by decide) (by decide) ge_b2 rfl (fun h161 W162 => ?_)
  have f163 := f159.wr W162 ge_b2
  have f164 := (arv_put f160 rfl W162 (i := 38) rfl (Nat.le_of_ble_eq_true rfl) : Arv Z h161 b2 kA3 .int (45 : Int32) [(.int (1 : Int32)), (.int (12 : Int32)), (.int (-1 : Int32)), (.int (-15 : Int32)), (.int (-9 : Int32)), (.int (-16 : Int32)), (.int (2005 : Int32)), (.int (2011 : Int32)), (.int (-6 : Int32)), (.int (5 : Int32)), (.int (4 : Int32)), (.int (-5 : Int32)), (.int (0 : Int32)), (.int (2 : Int32)), (.int (3 : Int32)), (.int (6 : Int32)), (.int (7 : Int32)), (.int (8 : Int32)), (.int (-7 : Int32)), (.int (-2 : Int32)), (.int (-3 : Int32)), (.int (-4 : Int32)), (.int (-8 : Int32)), (.int (-10 : Int32)), (.int (11 : Int32)), (.int (13 : Int32)), (.int (16 : Int32)), (.int (70 : Int32)), (.int (91 : Int32)), (.int (92 : Int32)), (.int (93 : Int32)), (.int (1111 : Int32)), (.int (2000 : Int32)), (.int (2001 : Int32)), (.int (2002 : Int32)), (.int (2003 : Int32)), (.int (2004 : Int32)), (.int (2006 : Int32)), (.int (2009 : Int32)), (.int (0 : Int32)), (.int (0 : Int32)), (.int (0 : Int32)), (.int (0 : Int32)), (.int (0 : Int32)), (.int (0 : Int32))] (.int (0 : Int32)))
  refine g_dup C (pc' := 236) at_235 rfl rfl rfl ?_
  refine g_bipush C (pc' := 238) (v := (39 : Int32)) at_236 (by decide) rfl ?_
  refine g_sipush C (pc' := 241) (v := (2010 : Int32)) at_238 (by decide) rfl ?_
  refine g_iastore C (pc' := 242) at_241 rfl f164 (by decide) (by decide) ge_b2 rfl (fun h165 W166 => ?_)
  have f167 := f163.wr W166 ge_b2
  have f168 := (arv_put f164 rfl W166 (i := 39) rfl (Nat.le_of_ble_eq_true rfl) : Arv Z h165 b2 kA3 .int (45 : Int32) [(.int (1 : Int32)), (.int (12 : Int32)), (.int (-1 : Int32)), (.int (-15 : Int32)), (.int (-9 : Int32)), (.int (-16 : Int32)), (.int (2005 : Int32)), (.int (2011 : Int32)), (.int (-6 : Int32)), (.int (5 : Int32)), (.int (4 : Int32)), (.int (-5 : Int32)), (.int (0 : Int32)), (.int (2 : Int32)), (.int (3 : Int32)), (.int (6 : Int32)), (.int (7 : Int32)), (.int (8 : Int32)), (.int (-7 : Int32)), (.int (-2 : Int32)), (.int (-3 : Int32)), (.int (-4 : Int32)), (.int (-8 : Int32)), (.int (-10 : Int32)), (.int (11 : Int32)), (.int (13 : Int32)), (.int (16 : Int32)), (.int (70 : Int32)), (.int (91 : Int32)), (.int (92 : Int32)), (.int (93 : Int32)), (.int (1111 : Int32)), (.int (2000 : Int32)), (.int (2001 : Int32)), (.int (2002 : Int32)), (.int (2003 : Int32)), (.int (2004 : Int32)), (.int (2006 : Int32)), (.int (2009 : Int32)), (.int (2010 : Int32)), (.int (0 : Int32)), (.int (0 : Int32)), (.int (0 : Int32)), (.int (0 : Int32)), (.int (0 : Int32))] (.int (0 : Int32)))
  refine g_dup C (pc' := 243) at_242 rfl rfl rfl ?_
  refine g_bipush C (pc' := 245) (v := (40 : Int32)) at_243 (by decide) rfl ?_
  refine g_sipush C (pc' := 248) (v := (2012 : Int32)) at_245 (by decide) rfl ?_
  refine g_iastore C (pc' := 249) at_248 rfl f168 (by decide) (by decide) ge_b2 rfl (fun h169 W170 => ?_)
  have f171 := f167.wr W170 ge_b2
  have f172 := (arv_put f168 rfl W170 (i := 40) rfl (Nat.le_of_ble_eq_true rfl) : Arv Z h169 b2 kA3 .int (45 : Int32) [(.int (1 : Int32)), (.int (12 : Int32)), (.int (-1 : Int32)), (.int (-15 : Int32)), (.int (-9 : Int32)), (.int (-16 : Int32)), (.int (2005 : Int32)), (.int (2011 : Int32)), (.int (-6 : Int32)), (.int (5 : Int32)), (.int (4 : Int32)), (.int (-5 : Int32)), (.int (0 : Int32)), (.int (2 : Int32)), (.int (3 : Int32)), (.int (6 : Int32)), (.int (7 : Int32)), (.int (8 : Int32)), (.int (-7 : Int32)), (.int (-2 : Int32)), (.int (-3 : Int32)), (.int (-4 : Int32)), (.int (-8 : Int32)), (.int (-10 : Int32)), (.int (11 : Int32)), (.int (13 : Int32)), (.int (16 : Int32)), (.int (70 : Int32)), (.int (91 : Int32)), (.int (92 : Int32)), (.int (93 : Int32)), (.int (1111 : Int32)), (.int (2000 : Int32)), (.int (2001 : Int32)), (.int (2002 : Int32)), (.int (2003 : Int32)), (.int (2004 : Int32)), (.int (2006 : Int32)), (.int (2009 : Int32)), (.int (2010 : Int32)), (.int (2012 : Int32)), (.int (0 : Int32)), (.int (0 : Int32)), (.int (0 : Int32)), (.int (0 : Int32))] (.int (0 : Int32)))
  refine g_dup C (pc' := 250) at_249 rfl rfl rfl ?_
  refine g_bipush C (pc' := 252) (v := (41 : Int32)) at_250 (by decide) rfl ?_
  refine g_sipush C (pc' := 255) (v := (2013 : Int32)) at_252 (by decide) rfl ?_
  refine g_iastore C (pc' := 256) at_255 rfl f172 (by decide) (by decide) ge_b2 rfl (fun h173 W174 => ?_)
  have f175 := f171.wr W174 ge_b2
  have f176 := (arv_put f172 rfl W174 (i := 41) rfl (Nat.le_of_ble_eq_true rfl) : Arv Z h173 b2 kA3 .int (45 : Int32) [(.int (1 : Int32)), (.int (12 : Int32)), (.int (-1 : Int32)), (.int (-15 : Int32)), (.int (-9 : Int32)), (.int (-16 : Int32)), (.int (2005 : Int32)), (.int (2011 : Int32)), (.int (-6 : Int32)), (.int (5 : Int32)), (.int (4 : Int32)), (.int (-5 : Int32)), (.int (0 : Int32)), (.int (2 : Int32)), (.int (3 : Int32)), (.int (6 : Int32)), (.int (7 : Int32)), (.int (8 : Int32)), (.int (-7 : Int32)), (.int (-2 : Int32)), (.int (-3 : Int32)), (.int (-4 : Int32)), (.int (-8 : Int32)), (.int (-10 : Int32)), (.int (11 : Int32)), (.int (13 : Int32)), (.int (16 : Int32)), (.int (70 : Int32)), (.int (91 : Int32)), (.int (92 : Int32)), (.int (93 : Int32)), (.int (1111 : Int32)), (.int (2000 : Int32)), (.int (2001 : Int32)), (.int (2002 : Int32)), (.int (2003 : Int32)), (.int (2004 : Int32)), (.int (2006 : Int32)), (.int (2009 : Int32)), (.int (2010 : Int32)), (.int (2012 : Int32)), (.int (2013 : Int32)), (.int (0 : Int32)), (.int (0 : Int32)), (.int (0 : Int32))] (.int (0 : Int32)))
  refine g_dup C (pc' := 257) at_256 rfl rfl rfl ?_
  refine g_bipush C (pc' := 259) (v := (42 : Int32)) at_257 (by decide) rfl ?_
  refine g_sipush C (pc' := 262) (v := (2014 : Int32)) at_259 (by decide) rfl ?_
  refine g_iastore C (pc' := 263) at_262 rfl f176 (by decide) (by decide) ge_b2 rfl (fun h177 W178 => ?_)
  have f179 := f175.wr W178 ge_b2
  have f180 := (arv_put f176 rfl W178 (i := 42) rfl (Nat.le_of_ble_eq_true rfl) : Arv Z h177 b2 kA3 .int (45 : Int32) [(.int (1 : Int32)), (.int (12 : Int32)), (.int (-1 : Int32)), (.int (-15 : Int32)), (.int (-9 : Int32)), (.int (-16 : Int32)), (.int (2005 : Int32)), (.int (2011 : Int32)), (.int (-6 : Int32)), (.int (5 : Int32)), (.int (4 : Int32)), (.int (-5 : Int32)), (.int (0 : Int32)), (.int (2 : Int32)), (.int (3 : Int32)), (.int (6 : Int32)), (.int (7 : Int32)), (.int (8 : Int32)), (.int (-7 : Int32)), (.int (-2 : Int32)), (.int (-3 : Int32)), (.int (-4 : Int32)), (.int (-8 : Int32)), (.int (-10 : Int32)), (.int (11 : Int32)), (.int (13 : Int32)), (.int (16 : Int32)), (.int (70 : Int32)), (.int (91 : Int32)), (.int (92 : Int32)), (.int (93 : Int32)), (.int (1111 : Int32)), (.int (2000 : Int32)), (.int (2001 : Int32)), (.int (2002 : Int32)), (.int (2003 : Int32)), (.int (2004 : Int32)), (.int (2006 : Int32)), (.int (2009 : Int32)), (.int (2010 : Int32)), (.int (2012 : Int32)), (.int (2013 : Int32)), (.int (2014 : Int32)), (.int (0 : Int32)), (.int (0 : Int32))] (.int (0 : Int32)))
  refine g_dup C (pc' := 264) at_263 rfl rfl rfl ?_
  refine g_bipush C (pc' := 266) (v := (43 : Int32)) at_264 (by decide) rfl ?_
  refine g_ldcInt C (pc' := 268) (wd hw 1 rfl) at_266 rfl ?_
  refine g_iastore C (pc' := 269) at_268 rfl f180 (by decide) (by decide) ge_b2 rfl (fun h181 W182 => ?_)
  have f183 := f179.wr W182 ge_b2
  have f184 := (arv_put f180 rfl W182 (i := 43) rfl (Nat.le_of_ble_eq_true rfl) : Arv Z h181 b2 kA3 .int (45 : Int32) [(.int (1 : Int32)), (.int (12 : Int32)), (.int (-1 : Int32)), (.int (-15 : Int32)), (.int (-9 : Int32)), (.int (-16 : Int32)), (.int (2005 : Int32)), (.int (2011 : Int32)), (.int (-6 : Int32)), (.int (5 : Int32)), (.int (4 : Int32)), (.int (-5 : Int32)), (.int (0 : Int32)), (.int (2 : Int32)), (.int (3 : Int32)), (.int (6 : Int32)), (.int (7 : Int32)), (.int (8 : Int32)), (.int (-7 : Int32)), (.int (-2 : Int32)), (.int (-3 : Int32)), (.int (-4 : Int32)), (.int (-8 : Int32)), (.int (-10 : Int32)), (.int (11 : Int32)), (.int (13 : Int32)), (.int (16 : Int32)), (.int (70 : Int32)), (.int (91 : Int32)), (.int (92 : Int32)), (.int (93 : Int32)), (.int (1111 : Int32)), (.int (2000 : Int32)), (.int (2001 : Int32)), (.int (2002 : Int32)), (.int (2003 : Int32)), (.int (2004 : Int32)), (.int (2006 : Int32)), (.int (2009 : Int32)), (.int (2010 : Int32)), (.int (2012 : Int32)), (.int (2013 : Int32)), (.int (2014 : Int32)), (.int (-2147483648 : Int32)), (.int (0 : Int32))] (.int (0 : Int32)))
  refine g_dup C (pc' := 270) at_269 rfl rfl rfl ?_
  refine g_bipush C (pc' := 272) (v := (44 : Int32)) at_270 (by decide) rfl ?_
  refine g_ldcInt C (pc' := 274) (wd hw 2 rfl) at_272 rfl ?_
  refine g_iastore C (pc' := 275) at_274 rfl f184 (by decide) (by decide) ge_b2 rfl (fun h185 W186 => ?_)
  have f187 := f183.wr W186 ge_b2
  have f188 := (arv_put f184 rfl W186 (i := 44) rfl (Nat.le_of_ble_eq_true rfl) : Arv Z h185 b2 kA3 .int (45 : Int32) [(.int (1 : Int32)), (.int (12 : Int32)), (.int (-1 : Int32)), (.int (-15 : Int32)), (.int (-9 : Int32)), (.int (-16 : Int32)), (.int (2005 : Int32)), (.int (2011 : Int32)), (.int (-6 : Int32)), (.int (5 : Int32)), (.int (4 : Int32)), (.int (-5 : Int32)), (.int (0 : Int32)), (.int (2 : Int32)), (.int (3 : Int32)), (.int (6 : Int32)), (.int (7 : Int32)), (.int (8 : Int32)), (.int (-7 : Int32)), (.int (-2 : Int32)), (.int (-3 : Int32)), (.int (-4 : Int32)), (.int (-8 : Int32)), (.int (-10 : Int32)), (.int (11 : Int32)), (.int (13 : Int32)), (.int (16 : Int32)), (.int (70 : Int32)), (.int (91 : Int32)), (.int (92 : Int32)), (.int (93 : Int32)), (.int (1111 : Int32)), (.int (2000 : Int32)), (.int (2001 : Int32)), (.int (2002 : Int32)), (.int (2003 : Int32)), (.int (2004 : Int32)), (.int (2006 : Int32)), (.int (2009 : Int32)), (.int (2010 : Int32)), (.int (2012 : Int32)), (.int (2013 : Int32)), (.int (2014 : Int32)), (.int (-2147483648 : Int32)), (.int (2147483647 : Int32))] (.int (0 : Int32)))
  refine g_astoreN C (pc' := 276) (Ls' := #[.val (.int p0), .val (.int p1), .val (.ref b2), .unset, .unset, .unset]) at_275 rfl rfl rfl rfl ?_
  have J : ∀ t : Int32, G w LQ h185 1 45 294 #[.val (.int p0), .val (.int p1), .val (.ref b2), .unset, .unset, .unset] [(.int t)] := by
    intro t
    rcases own_t t with rfl | rfl | rfl | rfl | rfl | rfl | rfl | rfl | rfl | rfl | rfl | rfl | hno
    · refine g_istoreN C (pc' := 295) (Ls' := #[.val (.int p0), .val (.int p1), .val (.ref b2), .val (.int (1 : Int32)), .unset, .unset]) at_294 rfl rfl rfl ?_
      refine g_iloadN C (pc' := 296) at_295 rfl rfl ?_
      refine g_callS C (pc' := 299) (k' := 1) (n' := 45) (argsL := [(.int (1 : Int32))]) (rest := []) (wd hw 3 rfl) (wd hw 4 rfl) (wd hw 5 rfl) (wd hw 6 rfl) (by decide) at_296 pd_0 rfl rfl rfl (of_1 l Z a0 hw n0 h185 f187 s_OTHER s_STRING s_INTEGER H) (Nat.le_of_ble_eq_true rfl) (Nat.le_of_ble_eq_true rfl) (Nat.le_of_ble_eq_true rfl) (Nat.le_of_ble_eq_true rfl) rfl rfl rfl (fun v190 h189 q191 => ?_)
      obtain ⟨rfl, eh189⟩ := q191
      subst h189
      show G w _ h185 1 45 299 #[.val (.int p0), .val (.int p1), .val (.ref b2), .val (.int (1 : Int32)), .unset, .unset] [(.ref s_STRING)]
      refine g_astore C (pc' := 301) (Ls' := #[.val (.int p0), .val (.int p1), .val (.ref b2), .val (.int (1 : Int32)), .val (.ref s_STRING), .unset]) at_299 rfl rfl rfl rfl ?_
      refine g_iloadN C (pc' := 302) at_301 rfl rfl ?_
      refine g_callS C (pc' := 305) (k' := 1) (n' := 45) (argsL := [(.int (1 : Int32))]) (rest := []) (wd hw 9 rfl) (wd hw 10 rfl) (wd hw 11 rfl) (wd hw 12 rfl) (by decide) at_302 pd_1 rfl rfl rfl (ex_1 l Z a0 hw n0 h185 f187 s_OTHER s_STRING s_INTEGER H) (Nat.le_of_ble_eq_true rfl) (Nat.le_of_ble_eq_true rfl) (Nat.le_of_ble_eq_true rfl) (Nat.le_of_ble_eq_true rfl) rfl rfl rfl (fun v193 h192 q194 => ?_)
      obtain ⟨rfl, eh192⟩ := q194
      subst h192
      show G w _ h185 1 45 305 #[.val (.int p0), .val (.int p1), .val (.ref b2), .val (.int (1 : Int32)), .val (.ref s_STRING), .unset] [(.int (0 : Int32))]
      refine g_istore C (pc' := 307) (Ls' := #[.val (.int p0), .val (.int p1), .val (.ref b2), .val (.int (1 : Int32)), .val (.ref s_STRING), .val (.int (0 : Int32))]) at_305 rfl rfl rfl ?_
      refine g_iload C (pc' := 309) at_307 rfl rfl ?_
      refine g_ifN C (pc' := 312) at_309 rfl (by decide) rfl ?_
      refine g_aload C (pc' := 314) at_312 rfl rfl rfl ?_
      refine g_getS C (pc' := 317) (wd hw 16 rfl) Via.refl at_314 (S_STRING.ext f187.2) rfl ?_
      refine g_acmp C (pc' := 320) (same := true) at_317 rfl rfl rfl (decide_eq_true rfl) (by decide) (by decide) ?_
      refine g_iconst C (pc' := 321) (v := (1 : Int32)) at_320 (by decide) rfl ?_
      refine g_goto C (pc' := 325) at_321 (by decide) rfl ?_
      exact g_zreturn C at_325 rfl rfl (Nat.le_of_ble_eq_true rfl) (Nat.le_of_ble_eq_true rfl) (rfl)
    · refine g_istoreN C (pc' := 295) (Ls' := #[.val (.int p0), .val (.int p1), .val (.ref b2), .val (.int (12 : Int32)), .unset, .unset]) at_294 rfl rfl rfl ?_
      refine g_iloadN C (pc' := 296) at_295 rfl rfl ?_
      refine g_callS C (pc' := 299) (k' := 1) (n' := 45) (argsL := [(.int (12 : Int32))]) (rest := []) (wd hw 3 rfl) (wd hw 4 rfl) (wd hw 5 rfl) (wd hw 6 rfl) (by decide) at_296 pd_0 rfl rfl rfl (of_12 l Z a0 hw n0 h185 f187 s_OTHER s_STRING s_INTEGER H) (Nat.le_of_ble_eq_true rfl) (Nat.le_of_ble_eq_true rfl) (Nat.le_of_ble_eq_true rfl) (Nat.le_of_ble_eq_true rfl) rfl rfl rfl (fun v196 h195 q197 => ?_)
      obtain ⟨rfl, eh195⟩ := q197
      subst h195
      show G w _ h185 1 45 299 #[.val (.int p0), .val (.int p1), .val (.ref b2), .val (.int (12 : Int32)), .unset, .unset] [(.ref s_STRING)]
      refine g_astore C (pc' := 301) (Ls' := #[.val (.int p0), .val (.int p1), .val (.ref b2), .val (.int (12 : Int32)), .val (.ref s_STRING), .unset]) at_299 rfl rfl rfl rfl ?_
      refine g_iloadN C (pc' := 302) at_301 rfl rfl ?_
      refine g_callS C (pc' := 305) (k' := 1) (n' := 45) (argsL := [(.int (12 : Int32))]) (rest := []) (wd hw 9 rfl) (wd hw 10 rfl) (wd hw 11 rfl) (wd hw 12 rfl) (by decide) at_302 pd_1 rfl rfl rfl (ex_12 l Z a0 hw n0 h185 f187 s_OTHER s_STRING s_INTEGER H) (Nat.le_of_ble_eq_true rfl) (Nat.le_of_ble_eq_true rfl) (Nat.le_of_ble_eq_true rfl) (Nat.le_of_ble_eq_true rfl) rfl rfl rfl (fun v199 h198 q200 => ?_)
      obtain ⟨rfl, eh198⟩ := q200
      subst h198
      show G w _ h185 1 45 305 #[.val (.int p0), .val (.int p1), .val (.ref b2), .val (.int (12 : Int32)), .val (.ref s_STRING), .unset] [(.int (0 : Int32))]
      refine g_istore C (pc' := 307) (Ls' := #[.val (.int p0), .val (.int p1), .val (.ref b2), .val (.int (12 : Int32)), .val (.ref s_STRING), .val (.int (0 : Int32))]) at_305 rfl rfl rfl ?_
      refine g_iload C (pc' := 309) at_307 rfl rfl ?_
      refine g_ifN C (pc' := 312) at_309 rfl (by decide) rfl ?_
      refine g_aload C (pc' := 314) at_312 rfl rfl rfl ?_
      refine g_getS C (pc' := 317) (wd hw 16 rfl) Via.refl at_314 (S_STRING.ext f187.2) rfl ?_
      refine g_acmp C (pc' := 320) (same := true) at_317 rfl rfl rfl (decide_eq_true rfl) (by decide) (by decide) ?_
      refine g_iconst C (pc' := 321) (v := (1 : Int32)) at_320 (by decide) rfl ?_
      refine g_goto C (pc' := 325) at_321 (by decide) rfl ?_
      exact g_zreturn C at_325 rfl rfl (Nat.le_of_ble_eq_true rfl) (Nat.le_of_ble_eq_true rfl) (rfl)
    · refine g_istoreN C (pc' := 295) (Ls' := #[.val (.int p0), .val (.int p1), .val (.ref b2), .val (.int (-1 : Int32)), .unset, .unset]) at_294 rfl rfl rfl ?_
      refine g_iloadN C (pc' := 296) at_295 rfl rfl ?_
      refine g_callS C (pc' := 299) (k' := 1) (n' := 45) (argsL := [(.int (-1 : Int32))]) (rest := []) (wd hw 3 rfl) (wd hw 4 rfl) (wd hw 5 rfl) (wd hw 6 rfl) (by decide) at_296 pd_0 rfl rfl rfl (of_m1 l Z a0 hw n0 h185 f187 s_OTHER s_STRING s_INTEGER H) (Nat.le_of_ble_eq_true rfl) (Nat.le_of_ble_eq_true rfl) (Nat.le_of_ble_eq_true rfl) (Nat.le_of_ble_eq_true rfl) rfl rfl rfl (fun v202 h201 q203 => ?_)
      obtain ⟨rfl, eh201⟩ := q203
      subst h201
      show G w _ h185 1 45 299 #[.val (.int p0), .val (.int p1), .val (.ref b2), .val (.int (-1 : Int32)), .unset, .unset] [(.ref s_STRING)]
      refine g_astore C (pc' := 301) (Ls' := #[.val (.int p0), .val (.int p1), .val (.ref b2), .val (.int (-1 : Int32)), .val (.ref s_STRING), .unset]) at_299 rfl rfl rfl rfl ?_
      refine g_iloadN C (pc' := 302) at_301 rfl rfl ?_
      refine g_callS C (pc' := 305) (k' := 1) (n' := 45) (argsL := [(.int (-1 : Int32))]) (rest := []) (wd hw 9 rfl) (wd hw 10 rfl) (wd hw 11 rfl) (wd hw 12 rfl) (by decide) at_302 pd_1 rfl rfl rfl (ex_m1 l Z a0 hw n0 h185 f187 s_OTHER s_STRING s_INTEGER H) (Nat.le_of_ble_eq_true rfl) (Nat.le_of_ble_eq_true rfl) (Nat.le_of_ble_eq_true rfl) (Nat.le_of_ble_eq_true rfl) rfl rfl rfl (fun v205 h204 q206 => ?_)
      obtain ⟨rfl, eh204⟩ := q206
      subst h204
      show G w _ h185 1 45 305 #[.val (.int p0), .val (.int p1), .val (.ref b2), .val (.int (-1 : Int32)), .val (.ref s_STRING), .unset] [(.int (0 : Int32))]
      refine g_istore C (pc' := 307) (Ls' := #[.val (.int p0), .val (.int p1), .val (.ref b2), .val (.int (-1 : Int32)), .val (.ref s_STRING), .val (.int (0 : Int32))]) at_305 rfl rfl rfl ?_
      refine g_iload C (pc' := 309) at_307 rfl rfl ?_
      refine g_ifN C (pc' := 312) at_309 rfl (by decide) rfl ?_
      refine g_aload C (pc' := 314) at_312 rfl rfl rfl ?_
      refine g_getS C (pc' := 317) (wd hw 16 rfl) Via.refl at_314 (S_STRING.ext f187.2) rfl ?_
      refine g_acmp C (pc' := 320) (same := true) at_317 rfl rfl rfl (decide_eq_true rfl) (by decide) (by decide) ?_
      refine g_iconst C (pc' := 321) (v := (1 : Int32)) at_320 (by decide) rfl ?_
      refine g_goto C (pc' := 325) at_321 (by decide) rfl ?_
      exact g_zreturn C at_325 rfl rfl (Nat.le_of_ble_eq_true rfl) (Nat.le_of_ble_eq_true rfl) (rfl)
    · refine g_istoreN C (pc' := 295) (Ls' := #[.val (.int p0), .val (.int p1), .val (.ref b2), .val (.int (-15 : Int32)), .unset, .unset]) at_294 rfl rfl rfl ?_
      refine g_iloadN C (pc' := 296) at_295 rfl rfl ?_
      refine g_callS C (pc' := 299) (k' := 1) (n' := 45) (argsL := [(.int (-15 : Int32))]) (rest := []) (wd hw 3 rfl) (wd hw 4 rfl) (wd hw 5 rfl) (wd hw 6 rfl) (by decide) at_296 pd_0 rfl rfl rfl (of_m15 l Z a0 hw n0 h185 f187 s_OTHER s_STRING s_INTEGER H) (Nat.le_of_ble_eq_true rfl) (Nat.le_of_ble_eq_true rfl) (Nat.le_of_ble_eq_true rfl) (Nat.le_of_ble_eq_true rfl) rfl rfl rfl (fun v208 h207 q209 => ?_)
      obtain ⟨rfl, eh207⟩ := q209
      subst h207
      show G w _ h185 1 45 299 #[.val (.int p0), .val (.int p1), .val (.ref b2), .val (.int (-15 : Int32)), .unset, .unset] [(.ref s_STRING)]
      refine g_astore C (pc' := 301) (Ls' := #[.val (.int p0), .val (.int p1), .val (.ref b2), .val (.int (-15 : Int32)), .val (.ref s_STRING), .unset]) at_299 rfl rfl rfl rfl ?_
      refine g_iloadN C (pc' := 302) at_301 rfl rfl ?_
      refine g_callS C (pc' := 305) (k' := 1) (n' := 45) (argsL := [(.int (-15 : Int32))]) (rest := []) (wd hw 9 rfl) (wd hw 10 rfl) (wd hw 11 rfl) (wd hw 12 rfl) (by decide) at_302 pd_1 rfl rfl rfl (ex_m15 l Z a0 hw n0 h185 f187 s_OTHER s_STRING s_INTEGER H) (Nat.le_of_ble_eq_true rfl) (Nat.le_of_ble_eq_true rfl) (Nat.le_of_ble_eq_true rfl) (Nat.le_of_ble_eq_true rfl) rfl rfl rfl (fun v211 h210 q212 => ?_)
      obtain ⟨rfl, eh210⟩ := q212
      subst h210
      show G w _ h185 1 45 305 #[.val (.int p0), .val (.int p1), .val (.ref b2), .val (.int (-15 : Int32)), .val (.ref s_STRING), .unset] [(.int (0 : Int32))]
      refine g_istore C (pc' := 307) (Ls' := #[.val (.int p0), .val (.int p1), .val (.ref b2), .val (.int (-15 : Int32)), .val (.ref s_STRING), .val (.int (0 : Int32))]) at_305 rfl rfl rfl ?_
      refine g_iload C (pc' := 309) at_307 rfl rfl ?_
      refine g_ifN C (pc' := 312) at_309 rfl (by decide) rfl ?_
      refine g_aload C (pc' := 314) at_312 rfl rfl rfl ?_
      refine g_getS C (pc' := 317) (wd hw 16 rfl) Via.refl at_314 (S_STRING.ext f187.2) rfl ?_
      refine g_acmp C (pc' := 320) (same := true) at_317 rfl rfl rfl (decide_eq_true rfl) (by decide) (by decide) ?_
      refine g_iconst C (pc' := 321) (v := (1 : Int32)) at_320 (by decide) rfl ?_
      refine g_goto C (pc' := 325) at_321 (by decide) rfl ?_
      exact g_zreturn C at_325 rfl rfl (Nat.le_of_ble_eq_true rfl) (Nat.le_of_ble_eq_true rfl) (rfl)
    · refine g_istoreN C (pc' := 295) (Ls' := #[.val (.int p0), .val (.int p1), .val (.ref b2), .val (.int (-9 : Int32)), .unset, .unset]) at_294 rfl rfl rfl ?_
      refine g_iloadN C (pc' := 296) at_295 rfl rfl ?_
      refine g_callS C (pc' := 299) (k' := 1) (n' := 45) (argsL := [(.int (-9 : Int32))]) (rest := []) (wd hw 3 rfl) (wd hw 4 rfl) (wd hw 5 rfl) (wd hw 6 rfl) (by decide) at_296 pd_0 rfl rfl rfl (of_m9 l Z a0 hw n0 h185 f187 s_OTHER s_STRING s_INTEGER H) (Nat.le_of_ble_eq_true rfl) (Nat.le_of_ble_eq_true rfl) (Nat.le_of_ble_eq_true rfl) (Nat.le_of_ble_eq_true rfl) rfl rfl rfl (fun v214 h213 q215 => ?_)
      obtain ⟨rfl, eh213⟩ := q215
      subst h213
      show G w _ h185 1 45 299 #[.val (.int p0), .val (.int p1), .val (.ref b2), .val (.int (-9 : Int32)), .unset, .unset] [(.ref s_STRING)]
      refine g_astore C (pc' := 301) (Ls' := #[.val (.int p0), .val (.int p1), .val (.ref b2), .val (.int (-9 : Int32)), .val (.ref s_STRING), .unset]) at_299 rfl rfl rfl rfl ?_
      refine g_iloadN C (pc' := 302) at_301 rfl rfl ?_
      refine g_callS C (pc' := 305) (k' := 1) (n' := 45) (argsL := [(.int (-9 : Int32))]) (rest := []) (wd hw 9 rfl) (wd hw 10 rfl) (wd hw 11 rfl) (wd hw 12 rfl) (by decide) at_302 pd_1 rfl rfl rfl (ex_m9 l Z a0 hw n0 h185 f187 s_OTHER s_STRING s_INTEGER H) (Nat.le_of_ble_eq_true rfl) (Nat.le_of_ble_eq_true rfl) (Nat.le_of_ble_eq_true rfl) (Nat.le_of_ble_eq_true rfl) rfl rfl rfl (fun v217 h216 q218 => ?_)
      obtain ⟨rfl, eh216⟩ := q218
      subst h216
      show G w _ h185 1 45 305 #[.val (.int p0), .val (.int p1), .val (.ref b2), .val (.int (-9 : Int32)), .val (.ref s_STRING), .unset] [(.int (0 : Int32))]
      refine g_istore C (pc' := 307) (Ls' := #[.val (.int p0), .val (.int p1), .val (.ref b2), .val (.int (-9 : Int32)), .val (.ref s_STRING), .val (.int (0 : Int32))]) at_305 rfl rfl rfl ?_
      refine g_iload C (pc' := 309) at_307 rfl rfl ?_
      refine g_ifN C (pc' := 312) at_309 rfl (by decide) rfl ?_
      refine g_aload C (pc' := 314) at_312 rfl rfl rfl ?_
      refine g_getS C (pc' := 317) (wd hw 16 rfl) Via.refl at_314 (S_STRING.ext f187.2) rfl ?_
      refine g_acmp C (pc' := 320) (same := true) at_317 rfl rfl rfl (decide_eq_true rfl) (by decide) (by decide) ?_
      refine g_iconst C (pc' := 321) (v := (1 : Int32)) at_320 (by decide) rfl ?_
      refine g_goto C (pc' := 325) at_321 (by decide) rfl ?_
      exact g_zreturn C at_325 rfl rfl (Nat.le_of_ble_eq_true rfl) (Nat.le_of_ble_eq_true rfl) (rfl)
    · refine g_istoreN C (pc' := 295) (Ls' := #[.val (.int p0), .val (.int p1), .val (.ref b2), .val (.int (-16 : Int32)), .unset, .unset]) at_294 rfl rfl rfl ?_
      refine g_iloadN C (pc' := 296) at_295 rfl rfl ?_
      refine g_callS C (pc' := 299) (k' := 1) (n' := 45) (argsL := [(.int (-16 : Int32))]) (rest := []) (wd hw 3 rfl) (wd hw 4 rfl) (wd hw 5 rfl) (wd hw 6 rfl) (by decide) at_296 pd_0 rfl rfl rfl (of_m16 l Z a0 hw n0 h185 f187 s_OTHER s_STRING s_INTEGER H) (Nat.le_of_ble_eq_true rfl) (Nat.le_of_ble_eq_true rfl) (Nat.le_of_ble_eq_true rfl) (Nat.le_of_ble_eq_true rfl) rfl rfl rfl (fun v220 h219 q221 => ?_)
      obtain ⟨rfl, eh219⟩ := q221
      subst h219
      show G w _ h185 1 45 299 #[.val (.int p0), .val (.int p1), .val (.ref b2), .val (.int (-16 : Int32)), .unset, .unset] [(.ref s_STRING)]
      refine g_astore C (pc' := 301) (Ls' := #[.val (.int p0), .val (.int p1), .val (.ref b2), .val (.int (-16 : Int32)), .val (.ref s_STRING), .unset]) at_299 rfl rfl rfl rfl ?_
      refine g_iloadN C (pc' := 302) at_301 rfl rfl ?_
      refine g_callS C (pc' := 305) (k' := 1) (n' := 45) (argsL := [(.int (-16 : Int32))]) (rest := []) (wd hw 9 rfl) (wd hw 10 rfl) (wd hw 11 rfl) (wd hw 12 rfl) (by decide) at_302 pd_1 rfl rfl rfl (ex_m16 l Z a0 hw n0 h185 f187 s_OTHER s_STRING s_INTEGER H) (Nat.le_of_ble_eq_true rfl) (Nat.le_of_ble_eq_true rfl) (Nat.le_of_ble_eq_true rfl) (Nat.le_of_ble_eq_true rfl) rfl rfl rfl (fun v223 h222 q224 => ?_)
      obtain ⟨rfl, eh222⟩ := q224
      subst h222
      show G w _ h185 1 45 305 #[.val (.int p0), .val (.int p1), .val (.ref b2), .val (.int (-16 : Int32)), .val (.ref s_STRING), .unset] [(.int (0 : Int32))]
      refine g_istore C (pc' := 307) (Ls' := #[.val (.int p0), .val (.int p1), .val (.ref b2), .val (.int (-16 : Int32)), .val (.ref s_STRING), .val (.int (0 : Int32))]) at_305 rfl rfl rfl ?_
      refine g_iload C (pc' := 309) at_307 rfl rfl ?_
      refine g_ifN C (pc' := 312) at_309 rfl (by decide) rfl ?_
      refine g_aload C (pc' := 314) at_312 rfl rfl rfl ?_
      refine g_getS C (pc' := 317) (wd hw 16 rfl) Via.refl at_314 (S_STRING.ext f187.2) rfl ?_
      refine g_acmp C (pc' := 320) (same := true) at_317 rfl rfl rfl (decide_eq_true rfl) (by decide) (by decide) ?_
      refine g_iconst C (pc' := 321) (v := (1 : Int32)) at_320 (by decide) rfl ?_
      refine g_goto C (pc' := 325) at_321 (by decide) rfl ?_
      exact g_zreturn C at_325 rfl rfl (Nat.le_of_ble_eq_true rfl) (Nat.le_of_ble_eq_true rfl) (rfl)
    · refine g_istoreN C (pc' := 295) (Ls' := #[.val (.int p0), .val (.int p1), .val (.ref b2), .val (.int (2005 : Int32)), .unset, .unset]) at_294 rfl rfl rfl ?_
      refine g_iloadN C (pc' := 296) at_295 rfl rfl ?_
      refine g_callS C (pc' := 299) (k' := 1) (n' := 45) (argsL := [(.int (2005 : Int32))]) (rest := []) (wd hw 3 rfl) (wd hw 4 rfl) (wd hw 5 rfl) (wd hw 6 rfl) (by decide) at_296 pd_0 rfl rfl rfl (of_2005 l Z a0 hw n0 h185 f187 s_OTHER s_STRING s_INTEGER H) (Nat.le_of_ble_eq_true rfl) (Nat.le_of_ble_eq_true rfl) (Nat.le_of_ble_eq_true rfl) (Nat.le_of_ble_eq_true rfl) rfl rfl rfl (fun v226 h225 q227 => ?_)
      obtain ⟨rfl, eh225⟩ := q227
      subst h225
      show G w _ h185 1 45 299 #[.val (.int p0), .val (.int p1), .val (.ref b2), .val (.int (2005 : Int32)), .unset, .unset] [(.ref s_STRING)]
      refine g_astore C (pc' := 301) (Ls' := #[.val (.int p0), .val (.int p1), .val (.ref b2), .val (.int (2005 : Int32)), .val (.ref s_STRING), .unset]) at_299 rfl rfl rfl rfl ?_
      refine g_iloadN C (pc' := 302) at_301 rfl rfl ?_
      refine g_callS C (pc' := 305) (k' := 1) (n' := 45) (argsL := [(.int (2005 : Int32))]) (rest := []) (wd hw 9 rfl) (wd hw 10 rfl) (wd hw 11 rfl) (wd hw 12 rfl) (by decide) at_302 pd_1 rfl rfl rfl (ex_2005 l Z a0 hw n0 h185 f187 s_OTHER s_STRING s_INTEGER H) (Nat.le_of_ble_eq_true rfl) (Nat.le_of_ble_eq_true rfl) (Nat.le_of_ble_eq_true rfl) (Nat.le_of_ble_eq_true rfl) rfl rfl rfl (fun v229 h228 q230 => ?_)
      obtain ⟨rfl, eh228⟩ := q230
      subst h228
      show G w _ h185 1 45 305 #[.val (.int p0), .val (.int p1), .val (.ref b2), .val (.int (2005 : Int32)), .val (.ref s_STRING), .unset] [(.int (0 : Int32))]
      refine g_istore C (pc' := 307) (Ls' := #[.val (.int p0), .val (.int p1), .val (.ref b2), .val (.int (2005 : Int32)), .val (.ref s_STRING), .val (.int (0 : Int32))]) at_305 rfl rfl rfl ?_
      refine g_iload C (pc' := 309) at_307 rfl rfl ?_
      refine g_ifN C (pc' := 312) at_309 rfl (by decide) rfl ?_
      refine g_aload C (pc' := 314) at_312 rfl rfl rfl ?_
      refine g_getS C (pc' := 317) (wd hw 16 rfl) Via.refl at_314 (S_STRING.ext f187.2) rfl ?_
      refine g_acmp C (pc' := 320) (same := true) at_317 rfl rfl rfl (decide_eq_true rfl) (by decide) (by decide) ?_
      refine g_iconst C (pc' := 321) (v := (1 : Int32)) at_320 (by decide) rfl ?_
      refine g_goto C (pc' := 325) at_321 (by decide) rfl ?_
      exact g_zreturn C at_325 rfl rfl (Nat.le_of_ble_eq_true rfl) (Nat.le_of_ble_eq_true rfl) (rfl)
    · refine g_istoreN C (pc' := 295) (Ls' := #[.val (.int p0), .val (.int p1), .val (.ref b2), .val (.int (2011 : Int32)), .unset, .unset]) at_294 rfl rfl rfl ?_
      refine g_iloadN C (pc' := 296) at_295 rfl rfl ?_
      refine g_callS C (pc' := 299) (k' := 1) (n' := 45) (argsL := [(.int (2011 : Int32))]) (rest := []) (wd hw 3 rfl) (wd hw 4 rfl) (wd hw 5 rfl) (wd hw 6 rfl) (by decide) at_296 pd_0 rfl rfl rfl (of_2011 l Z a0 hw n0 h185 f187 s_OTHER s_STRING s_INTEGER H) (Nat.le_of_ble_eq_true rfl) (Nat.le_of_ble_eq_true rfl) (Nat.le_of_ble_eq_true rfl) (Nat.le_of_ble_eq_true rfl) rfl rfl rfl (fun v232 h231 q233 => ?_)
      obtain ⟨rfl, eh231⟩ := q233
      subst h231
      show G w _ h185 1 45 299 #[.val (.int p0), .val (.int p1), .val (.ref b2), .val (.int (2011 : Int32)), .unset, .unset] [(.ref s_STRING)]
      refine g_astore C (pc' := 301) (Ls' := #[.val (.int p0), .val (.int p1), .val (.ref b2), .val (.int (2011 : Int32)), .val (.ref s_STRING), .unset]) at_299 rfl rfl rfl rfl ?_
      refine g_iloadN C (pc' := 302) at_301 rfl rfl ?_
      refine g_callS C (pc' := 305) (k' := 1) (n' := 45) (argsL := [(.int (2011 : Int32))]) (rest := []) (wd hw 9 rfl) (wd hw 10 rfl) (wd hw 11 rfl) (wd hw 12 rfl) (by decide) at_302 pd_1 rfl rfl rfl (ex_2011 l Z a0 hw n0 h185 f187 s_OTHER s_STRING s_INTEGER H) (Nat.le_of_ble_eq_true rfl) (Nat.le_of_ble_eq_true rfl) (Nat.le_of_ble_eq_true rfl) (Nat.le_of_ble_eq_true rfl) rfl rfl rfl (fun v235 h234 q236 => ?_)
      obtain ⟨rfl, eh234⟩ := q236
      subst h234
      show G w _ h185 1 45 305 #[.val (.int p0), .val (.int p1), .val (.ref b2), .val (.int (2011 : Int32)), .val (.ref s_STRING), .unset] [(.int (0 : Int32))]
      refine g_istore C (pc' := 307) (Ls' := #[.val (.int p0), .val (.int p1), .val (.ref b2), .val (.int (2011 : Int32)), .val (.ref s_STRING), .val (.int (0 : Int32))]) at_305 rfl rfl rfl ?_
      refine g_iload C (pc' := 309) at_307 rfl rfl ?_
      refine g_ifN C (pc' := 312) at_309 rfl (by decide) rfl ?_
      refine g_aload C (pc' := 314) at_312 rfl rfl rfl ?_
      refine g_getS C (pc' := 317) (wd hw 16 rfl) Via.refl at_314 (S_STRING.ext f187.2) rfl ?_
      refine g_acmp C (pc' := 320) (same := true) at_317 rfl rfl rfl (decide_eq_true rfl) (by decide) (by decide) ?_
      refine g_iconst C (pc' := 321) (v := (1 : Int32)) at_320 (by decide) rfl ?_
      refine g_goto C (pc' := 325) at_321 (by decide) rfl ?_
      exact g_zreturn C at_325 rfl rfl (Nat.le_of_ble_eq_true rfl) (Nat.le_of_ble_eq_true rfl) (rfl)
    · refine g_istoreN C (pc' := 295) (Ls' := #[.val (.int p0), .val (.int p1), .val (.ref b2), .val (.int (-6 : Int32)), .unset, .unset]) at_294 rfl rfl rfl ?_
      refine g_iloadN C (pc' := 296) at_295 rfl rfl ?_
      refine g_callS C (pc' := 299) (k' := 1) (n' := 45) (argsL := [(.int (-6 : Int32))]) (rest := []) (wd hw 3 rfl) (wd hw 4 rfl) (wd hw 5 rfl) (wd hw 6 rfl) (by decide) at_296 pd_0 rfl rfl rfl (of_m6 l Z a0 hw n0 h185 f187 s_OTHER s_STRING s_INTEGER H) (Nat.le_of_ble_eq_true rfl) (Nat.le_of_ble_eq_true rfl) (Nat.le_of_ble_eq_true rfl) (Nat.le_of_ble_eq_true rfl) rfl rfl rfl (fun v238 h237 q239 => ?_)
      obtain ⟨rfl, eh237⟩ := q239
      subst h237
      show G w _ h185 1 45 299 #[.val (.int p0), .val (.int p1), .val (.ref b2), .val (.int (-6 : Int32)), .unset, .unset] [(.ref s_INTEGER)]
      refine g_astore C (pc' := 301) (Ls' := #[.val (.int p0), .val (.int p1), .val (.ref b2), .val (.int (-6 : Int32)), .val (.ref s_INTEGER), .unset]) at_299 rfl rfl rfl rfl ?_
      refine g_iloadN C (pc' := 302) at_301 rfl rfl ?_
      refine g_callS C (pc' := 305) (k' := 1) (n' := 45) (argsL := [(.int (-6 : Int32))]) (rest := []) (wd hw 9 rfl) (wd hw 10 rfl) (wd hw 11 rfl) (wd hw 12 rfl) (by decide) at_302 pd_1 rfl rfl rfl (ex_m6 l Z a0 hw n0 h185 f187 s_OTHER s_STRING s_INTEGER H) (Nat.le_of_ble_eq_true rfl) (Nat.le_of_ble_eq_true rfl) (Nat.le_of_ble_eq_true rfl) (Nat.le_of_ble_eq_true rfl) rfl rfl rfl (fun v241 h240 q242 => ?_)
      obtain ⟨rfl, eh240⟩ := q242
      subst h240
      show G w _ h185 1 45 305 #[.val (.int p0), .val (.int p1), .val (.ref b2), .val (.int (-6 : Int32)), .val (.ref s_INTEGER), .unset] [(.int (1 : Int32))]
      refine g_istore C (pc' := 307) (Ls' := #[.val (.int p0), .val (.int p1), .val (.ref b2), .val (.int (-6 : Int32)), .val (.ref s_INTEGER), .val (.int (1 : Int32))]) at_305 rfl rfl rfl ?_
      refine g_iload C (pc' := 309) at_307 rfl rfl ?_
      refine g_ifY C (pc' := 326) at_309 rfl (by decide) (by decide) rfl ?_
      refine g_iload C (pc' := 328) at_326 rfl rfl ?_
      refine g_iconst C (pc' := 329) (v := (1 : Int32)) at_328 (by decide) rfl ?_
      refine g_icN C (pc' := 332) at_329 rfl (by decide) rfl ?_
      refine g_aload C (pc' := 334) at_332 rfl rfl rfl ?_
      refine g_getS C (pc' := 337) (wd hw 19 rfl) Via.refl at_334 (S_INTEGER.ext f187.2) rfl ?_
      refine g_acmp C (pc' := 340) (same := true) at_337 rfl rfl rfl (decide_eq_true rfl) (by decide) (by decide) ?_
      refine g_iconst C (pc' := 341) (v := (1 : Int32)) at_340 (by decide) rfl ?_
      refine g_goto C (pc' := 345) at_341 (by decide) rfl ?_
      exact g_zreturn C at_345 rfl rfl (Nat.le_of_ble_eq_true rfl) (Nat.le_of_ble_eq_true rfl) (rfl)
    · refine g_istoreN C (pc' := 295) (Ls' := #[.val (.int p0), .val (.int p1), .val (.ref b2), .val (.int (5 : Int32)), .unset, .unset]) at_294 rfl rfl rfl ?_
      refine g_iloadN C (pc' := 296) at_295 rfl rfl ?_
      refine g_callS C (pc' := 299) (k' := 1) (n' := 45) (argsL := [(.int (5 : Int32))]) (rest := []) (wd hw 3 rfl) (wd hw 4 rfl) (wd hw 5 rfl) (wd hw 6 rfl) (by decide) at_296 pd_0 rfl rfl rfl (of_5 l Z a0 hw n0 h185 f187 s_OTHER s_STRING s_INTEGER H) (Nat.le_of_ble_eq_true rfl) (Nat.le_of_ble_eq_true rfl) (Nat.le_of_ble_eq_true rfl) (Nat.le_of_ble_eq_true rfl) rfl rfl rfl (fun v244 h243 q245 => ?_)
      obtain ⟨rfl, eh243⟩ := q245
      subst h243
      show G w _ h185 1 45 299 #[.val (.int p0), .val (.int p1), .val (.ref b2), .val (.int (5 : Int32)), .unset, .unset] [(.ref s_INTEGER)]
      refine g_astore C (pc' := 301) (Ls' := #[.val (.int p0), .val (.int p1), .val (.ref b2), .val (.int (5 : Int32)), .val (.ref s_INTEGER), .unset]) at_299 rfl rfl rfl rfl ?_
      refine g_iloadN C (pc' := 302) at_301 rfl rfl ?_
      refine g_callS C (pc' := 305) (k' := 1) (n' := 45) (argsL := [(.int (5 : Int32))]) (rest := []) (wd hw 9 rfl) (wd hw 10 rfl) (wd hw 11 rfl) (wd hw 12 rfl) (by decide) at_302 pd_1 rfl rfl rfl (ex_5 l Z a0 hw n0 h185 f187 s_OTHER s_STRING s_INTEGER H) (Nat.le_of_ble_eq_true rfl) (Nat.le_of_ble_eq_true rfl) (Nat.le_of_ble_eq_true rfl) (Nat.le_of_ble_eq_true rfl) rfl rfl rfl (fun v247 h246 q248 => ?_)
      obtain ⟨rfl, eh246⟩ := q248
      subst h246
      show G w _ h185 1 45 305 #[.val (.int p0), .val (.int p1), .val (.ref b2), .val (.int (5 : Int32)), .val (.ref s_INTEGER), .unset] [(.int (1 : Int32))]
      refine g_istore C (pc' := 307) (Ls' := #[.val (.int p0), .val (.int p1), .val (.ref b2), .val (.int (5 : Int32)), .val (.ref s_INTEGER), .val (.int (1 : Int32))]) at_305 rfl rfl rfl ?_
      refine g_iload C (pc' := 309) at_307 rfl rfl ?_
      refine g_ifY C (pc' := 326) at_309 rfl (by decide) (by decide) rfl ?_
      refine g_iload C (pc' := 328) at_326 rfl rfl ?_
      refine g_iconst C (pc' := 329) (v := (1 : Int32)) at_328 (by decide) rfl ?_
      refine g_icN C (pc' := 332) at_329 rfl (by decide) rfl ?_
      refine g_aload C (pc' := 334) at_332 rfl rfl rfl ?_
      refine g_getS C (pc' := 337) (wd hw 19 rfl) Via.refl at_334 (S_INTEGER.ext f187.2) rfl ?_
      refine g_acmp C (pc' := 340) (same := true) at_337 rfl rfl rfl (decide_eq_true rfl) (by decide) (by decide) ?_
      refine g_iconst C (pc' := 341) (v := (1 : Int32)) at_340 (by decide) rfl ?_
      refine g_goto C (pc' := 345) at_341 (by decide) rfl ?_
      exact g_zreturn C at_345 rfl rfl (Nat.le_of_ble_eq_true rfl) (Nat.le_of_ble_eq_true rfl) (rfl)
    · refine g_istoreN C (pc' := 295) (Ls' := #[.val (.int p0), .val (.int p1), .val (.ref b2), .val (.int (4 : Int32)), .unset, .unset]) at_294 rfl rfl rfl ?_
      refine g_iloadN C (pc' := 296) at_295 rfl rfl ?_
      refine g_callS C (pc' := 299) (k' := 1) (n' := 45) (argsL := [(.int (4 : Int32))]) (rest := []) (wd hw 3 rfl) (wd hw 4 rfl) (wd hw 5 rfl) (wd hw 6 rfl) (by decide) at_296 pd_0 rfl rfl rfl (of_4 l Z a0 hw n0 h185 f187 s_OTHER s_STRING s_INTEGER H) (Nat.le_of_ble_eq_true rfl) (Nat.le_of_ble_eq_true rfl) (Nat.le_of_ble_eq_true rfl) (Nat.le_of_ble_eq_true rfl) rfl rfl rfl (fun v250 h249 q251 => ?_)
      obtain ⟨rfl, eh249⟩ := q251
      subst h249
      show G w _ h185 1 45 299 #[.val (.int p0), .val (.int p1), .val (.ref b2), .val (.int (4 : Int32)), .unset, .unset] [(.ref s_INTEGER)]
      refine g_astore C (pc' := 301) (Ls' := #[.val (.int p0), .val (.int p1), .val (.ref b2), .val (.int (4 : Int32)), .val (.ref s_INTEGER), .unset]) at_299 rfl rfl rfl rfl ?_
      refine g_iloadN C (pc' := 302) at_301 rfl rfl ?_
      refine g_callS C (pc' := 305) (k' := 1) (n' := 45) (argsL := [(.int (4 : Int32))]) (rest := []) (wd hw 9 rfl) (wd hw 10 rfl) (wd hw 11 rfl) (wd hw 12 rfl) (by decide) at_302 pd_1 rfl rfl rfl (ex_4 l Z a0 hw n0 h185 f187 s_OTHER s_STRING s_INTEGER H) (Nat.le_of_ble_eq_true rfl) (Nat.le_of_ble_eq_true rfl) (Nat.le_of_ble_eq_true rfl) (Nat.le_of_ble_eq_true rfl) rfl rfl rfl (fun v253 h252 q254 => ?_)
      obtain ⟨rfl, eh252⟩ := q254
      subst h252
      show G w _ h185 1 45 305 #[.val (.int p0), .val (.int p1), .val (.ref b2), .val (.int (4 : Int32)), .val (.ref s_INTEGER), .unset] [(.int (1 : Int32))]
      refine g_istore C (pc' := 307) (Ls' := #[.val (.int p0), .val (.int p1), .val (.ref b2), .val (.int (4 : Int32)), .val (.ref s_INTEGER), .val (.int (1 : Int32))]) at_305 rfl rfl rfl ?_
      refine g_iload C (pc' := 309) at_307 rfl rfl ?_
      refine g_ifY C (pc' := 326) at_309 rfl (by decide) (by decide) rfl ?_
      refine g_iload C (pc' := 328) at_326 rfl rfl ?_
      refine g_iconst C (pc' := 329) (v := (1 : Int32)) at_328 (by decide) rfl ?_
      refine g_icN C (pc' := 332) at_329 rfl (by decide) rfl ?_
      refine g_aload C (pc' := 334) at_332 rfl rfl rfl ?_
      refine g_getS C (pc' := 337) (wd hw 19 rfl) Via.refl at_334 (S_INTEGER.ext f187.2) rfl ?_
      refine g_acmp C (pc' := 340) (same := true) at_337 rfl rfl rfl (decide_eq_true rfl) (by decide) (by decide) ?_
      refine g_iconst C (pc' := 341) (v := (1 : Int32)) at_340 (by decide) rfl ?_
      refine g_goto C (pc' := 345) at_341 (by decide) rfl ?_
      exact g_zreturn C at_345 rfl rfl (Nat.le_of_ble_eq_true rfl) (Nat.le_of_ble_eq_true rfl) (rfl)
    · refine g_istoreN C (pc' := 295) (Ls' := #[.val (.int p0), .val (.int p1), .val (.ref b2), .val (.int (-5 : Int32)), .unset, .unset]) at_294 rfl rfl rfl ?_
      refine g_iloadN C (pc' := 296) at_295 rfl rfl ?_
      refine g_callS C (pc' := 299) (k' := 1) (n' := 45) (argsL := [(.int (-5 : Int32))]) (rest := []) (wd hw 3 rfl) (wd hw 4 rfl) (wd hw 5 rfl) (wd hw 6 rfl) (by decide) at_296 pd_0 rfl rfl rfl (of_m5 l Z a0 hw n0 h185 f187 s_OTHER s_STRING s_INTEGER H) (Nat.le_of_ble_eq_true rfl) (Nat.le_of_ble_eq_true rfl) (Nat.le_of_ble_eq_true rfl) (Nat.le_of_ble_eq_true rfl) rfl rfl rfl (fun v256 h255 q257 => ?_)
      obtain ⟨rfl, eh255⟩ := q257
      subst h255
      show G w _ h185 1 45 299 #[.val (.int p0), .val (.int p1), .val (.ref b2), .val (.int (-5 : Int32)), .unset, .unset] [(.ref s_INTEGER)]
      refine g_astore C (pc' := 301) (Ls' := #[.val (.int p0), .val (.int p1), .val (.ref b2), .val (.int (-5 : Int32)), .val (.ref s_INTEGER), .unset]) at_299 rfl rfl rfl rfl ?_
      refine g_iloadN C (pc' := 302) at_301 rfl rfl ?_
      refine g_callS C (pc' := 305) (k' := 1) (n' := 45) (argsL := [(.int (-5 : Int32))]) (rest := []) (wd hw 9 rfl) (wd hw 10 rfl) (wd hw 11 rfl) (wd hw 12 rfl) (by decide) at_302 pd_1 rfl rfl rfl (ex_m5 l Z a0 hw n0 h185 f187 s_OTHER s_STRING s_INTEGER H) (Nat.le_of_ble_eq_true rfl) (Nat.le_of_ble_eq_true rfl) (Nat.le_of_ble_eq_true rfl) (Nat.le_of_ble_eq_true rfl) rfl rfl rfl (fun v259 h258 q260 => ?_)
      obtain ⟨rfl, eh258⟩ := q260
      subst h258
      show G w _ h185 1 45 305 #[.val (.int p0), .val (.int p1), .val (.ref b2), .val (.int (-5 : Int32)), .val (.ref s_INTEGER), .unset] [(.int (1 : Int32))]
      refine g_istore C (pc' := 307) (Ls' := #[.val (.int p0), .val (.int p1), .val (.ref b2), .val (.int (-5 : Int32)), .val (.ref s_INTEGER), .val (.int (1 : Int32))]) at_305 rfl rfl rfl ?_
      refine g_iload C (pc' := 309) at_307 rfl rfl ?_
      refine g_ifY C (pc' := 326) at_309 rfl (by decide) (by decide) rfl ?_
      refine g_iload C (pc' := 328) at_326 rfl rfl ?_
      refine g_iconst C (pc' := 329) (v := (1 : Int32)) at_328 (by decide) rfl ?_
      refine g_icN C (pc' := 332) at_329 rfl (by decide) rfl ?_
      refine g_aload C (pc' := 334) at_332 rfl rfl rfl ?_
      refine g_getS C (pc' := 337) (wd hw 19 rfl) Via.refl at_334 (S_INTEGER.ext f187.2) rfl ?_
      refine g_acmp C (pc' := 340) (same := true) at_337 rfl rfl rfl (decide_eq_true rfl) (by decide) (by decide) ?_
      refine g_iconst C (pc' := 341) (v := (1 : Int32)) at_340 (by decide) rfl ?_
      refine g_goto C (pc' := 345) at_341 (by decide) rfl ?_
      exact g_zreturn C at_345 rfl rfl (Nat.le_of_ble_eq_true rfl) (Nat.le_of_ble_eq_true rfl) (rfl)
    · refine g_istoreN C (pc' := 295) (Ls' := #[.val (.int p0), .val (.int p1), .val (.ref b2), .val (.int t), .unset, .unset]) at_294 rfl rfl rfl ?_
      refine g_iloadN C (pc' := 296) at_295 rfl rfl ?_
      refine g_callS C (pc' := 299) (k' := 1) (n' := 45) (argsL := [(.int t)]) (rest := []) (wd hw 3 rfl) (wd hw 4 rfl) (wd hw 5 rfl) (wd hw 6 rfl) (by decide) at_296 pd_0 rfl rfl rfl (of_other l Z a0 hw n0 h185 f187 s_OTHER s_STRING s_INTEGER H t hno) (Nat.le_of_ble_eq_true rfl) (Nat.le_of_ble_eq_true rfl) (Nat.le_of_ble_eq_true rfl) (Nat.le_of_ble_eq_true rfl) rfl rfl rfl (fun v262 h261 q263 => ?_)
      obtain ⟨rfl, eh261⟩ := q263
      subst h261
      show G w _ h185 1 45 299 #[.val (.int p0), .val (.int p1), .val (.ref b2), .val (.int t), .unset, .unset] [(.ref s_OTHER)]
      refine g_astore C (pc' := 301) (Ls' := #[.val (.int p0), .val (.int p1), .val (.ref b2), .val (.int t), .val (.ref s_OTHER), .unset]) at_299 rfl rfl rfl rfl ?_
      refine g_iloadN C (pc' := 302) at_301 rfl rfl ?_
      refine g_callS C (pc' := 305) (k' := 1) (n' := 45) (argsL := [(.int t)]) (rest := []) (wd hw 9 rfl) (wd hw 10 rfl) (wd hw 11 rfl) (wd hw 12 rfl) (by decide) at_302 pd_1 rfl rfl rfl (ex_other l Z a0 hw n0 h185 f187 s_OTHER s_STRING s_INTEGER H t hno) (Nat.le_of_ble_eq_true rfl) (Nat.le_of_ble_eq_true rfl) (Nat.le_of_ble_eq_true rfl) (Nat.le_of_ble_eq_true rfl) rfl rfl rfl (fun v265 h264 q266 => ?_)
      obtain ⟨rfl, eh264⟩ := q266
      subst h264
      show G w _ h185 1 45 305 #[.val (.int p0), .val (.int p1), .val (.ref b2), .val (.int t), .val (.ref s_OTHER), .unset] [(.int (2 : Int32))]
      refine g_istore C (pc' := 307) (Ls' := #[.val (.int p0), .val (.int p1), .val (.ref b2), .val (.int t), .val (.ref s_OTHER), .val (.int (2 : Int32))]) at_305 rfl rfl rfl ?_
      refine g_iload C (pc' := 309) at_307 rfl rfl ?_
      refine g_ifY C (pc' := 326) at_309 rfl (by decide) (by decide) rfl ?_
      refine g_iload C (pc' := 328) at_326 rfl rfl ?_
      refine g_iconst C (pc' := 329) (v := (1 : Int32)) at_328 (by decide) rfl ?_
      refine g_icY C (pc' := 346) at_329 rfl (by decide) (by decide) rfl ?_
      refine g_aload C (pc' := 348) at_346 rfl rfl rfl ?_
      refine g_getS C (pc' := 351) (wd hw 13 rfl) Via.refl at_348 (S_OTHER.ext f187.2) rfl ?_
      refine g_acmp C (pc' := 354) (same := true) at_351 rfl rfl rfl (decide_eq_true rfl) (by decide) (by decide) ?_
      refine g_iconst C (pc' := 355) (v := (1 : Int32)) at_354 (by decide) rfl ?_
      refine g_goto C (pc' := 359) at_355 (by decide) rfl ?_
      exact g_zreturn C at_359 rfl rfl (Nat.le_of_ble_eq_true rfl) (Nat.le_of_ble_eq_true rfl) (rfl)
  refine g_iloadN C (pc' := 277) at_276 rfl rfl ?_
  refine g_iconst C (pc' := 278) (v := (1 : Int32)) at_277 (by decide) rfl ?_
  refine g_iand C (pc' := 279) at_278 rfl rfl ?_
  refine g_ifB C (pcT := 286) (pc' := 282) at_279 rfl (by decide) rfl rfl (fun hc267 => ?_) (fun hc267 => ?_)
  · replace hc267 : ¬ (p0 &&& (1 : Int32)) = (0 : Int32) := hc267
    refine g_aloadN C (pc' := 287) at_286 rfl rfl rfl ?_
    refine g_iloadN C (pc' := 288) at_287 rfl rfl ?_
    refine g_iconst C (pc' := 289) (v := (1 : Int32)) at_288 (by decide) rfl ?_
    refine g_iushr C (pc' := 290) at_289 rfl rfl ?_
    refine g_aloadN C (pc' := 291) at_290 rfl rfl rfl ?_
    refine g_alen C (pc' := 292) at_291 rfl f188 rfl ?_
    refine g_irem C (pc' := 293) at_292 rfl (by decide) rfl ?_
    refine g_iaload C (pc' := 294) (x := (List.getD [(1 : Int32), (12 : Int32), (-1 : Int32), (-15 : Int32), (-9 : Int32), (-16 : Int32), (2005 : Int32), (2011 : Int32), (-6 : Int32), (5 : Int32), (4 : Int32), (-5 : Int32), (0 : Int32), (2 : Int32), (3 : Int32), (6 : Int32), (7 : Int32), (8 : Int32), (-7 : Int32), (-2 : Int32), (-3 : Int32), (-4 : Int32), (-8 : Int32), (-10 : Int32), (11 : Int32), (13 : Int32), (16 : Int32), (70 : Int32), (91 : Int32), (92 : Int32), (93 : Int32), (1111 : Int32), (2000 : Int32), (2001 : Int32), (2002 : Int32), (2003 : Int32), (2004 : Int32), (2006 : Int32), (2009 : Int32), (2010 : Int32), (2012 : Int32), (2013 : Int32), (2014 : Int32), (-2147483648 : Int32), (2147483647 : Int32)] (((p0.toUInt32 >>> ((1 : Int32) &&& 31).toUInt32).toInt32) % (45 : Int32)).toNatClampNeg 0)) at_293 rfl f188 (own_idx p0).1 (own_idx p0).2 (own_getD [(1 : Int32), (12 : Int32), (-1 : Int32), (-15 : Int32), (-9 : Int32), (-16 : Int32), (2005 : Int32), (2011 : Int32), (-6 : Int32), (5 : Int32), (4 : Int32), (-5 : Int32), (0 : Int32), (2 : Int32), (3 : Int32), (6 : Int32), (7 : Int32), (8 : Int32), (-7 : Int32), (-2 : Int32), (-3 : Int32), (-4 : Int32), (-8 : Int32), (-10 : Int32), (11 : Int32), (13 : Int32), (16 : Int32), (70 : Int32), (91 : Int32), (92 : Int32), (93 : Int32), (1111 : Int32), (2000 : Int32), (2001 : Int32), (2002 : Int32), (2003 : Int32), (2004 : Int32), (2006 : Int32), (2009 : Int32), (2010 : Int32), (2012 : Int32), (2013 : Int32), (2014 : Int32), (-2147483648 : Int32), (2147483647 : Int32)] _) rfl ?_
    exact J _
  · replace hc267 : (p0 &&& (1 : Int32)) = (0 : Int32) := Decidable.not_not.mp hc267
    refine g_iloadN C (pc' := 283) at_282 rfl rfl ?_
    refine g_goto C (pc' := 294) at_283 (by decide) rfl ?_
    exact J _
set_option maxRecDepth 65536 in
set_option maxHeartbeats 40000000 in
theorem comes_1 {Post : Tables → Env → Array Value → State → Outcome → State → Prop} (hpost : ∀ tb e args s v u, (limb_1_1.after args s (.returned v) u = true ∧ limb_1_2.after args s (.returned v) u = true ∧ True) → FrameEnd s (.returned v) u (Jvm.fieldLocs frame_1_writes args s ++ Jvm.arrayLocs frame_1_arrays args s ++ Jvm.staticLocs frame_1_statics s) 16 192 → Post tb e args s (.returned v) u) :
    ArmFor flags0 classFile x code maxLocals ret World_1 tables_1 room_1 Calls_1 rest_1 Pre_1 Post := by
  intro l hfl _ _ p e ha hc hk s m args below hf hA hF happ hP
  obtain ⟨hcalls, hrest, hpre⟩ := hP
  obtain ⟨-, -, -, hnamed, -, -, -, hat⟩ := (Spec.applies_iff hf).mp happ
  obtain ⟨hg, hn⟩ := and_e (Cond.before_iff.mp (show (Jvm.Cond.and given_1 narrow_1).before args s = true from hpre))
  obtain ⟨hga, hgb⟩ := and_e hg
  obtain ⟨hgba, hgbb⟩ := and_e hgb
  obtain ⟨w0, w1, rfl⟩ : ∃ w0 w1 : Value, args = #[w0, w1] := by
    have hs : args.size = 2 := by simpa [Cond.value, given_1] using hga
    obtain ⟨L⟩ := args
    match L, hs with
    | [w0, w1], _ => exact ⟨w0, w1, rfl⟩
  have hw := fun d (hd : d ∈ tables_1) => atoms_spec (ws := Jvm.Cond.code x code maxLocals ret :: tables_1) hat d (List.mem_cons_of_mem _ hd)
  have hfit : Fit s := fun {y c} hc i hi => by
    obtain ⟨ha, rfl⟩ := Array.getElem?_eq_some_iff.mp hc
    have q := List.all_eq_true.mp ((Array.all_eq_true_iff_forall_mem.mp hF) _ (Array.getElem_mem ha)) i (List.mem_range.mpr hi)
    simpa [Array.getElem?_eq_getElem hi] using q
  obtain ⟨i0, ei0⟩ := is_v hgba
  obtain rfl : w0 = (.int i0) := Option.some.inj ei0
  obtain ⟨i1, ei1⟩ := is_v hgbb
  obtain rfl : w1 = (.int i1) := Option.some.inj ei1
  obtain ⟨hna, hnb⟩ := and_e hn
  obtain ⟨hnba, hnbb⟩ := and_e hnb
  obtain ⟨s_OTHER, ev_OTHER⟩ := exa_v hna
  have S_OTHER := Sta.start ev_OTHER (Or.inr ⟨(wd hw 5 rfl), (wd hw 8 rfl)⟩)
  have E_OTHER := Exa.start ev_OTHER hna
  obtain ⟨s_STRING, ev_STRING⟩ := exa_v hnba
  have S_STRING := Sta.start ev_STRING (Or.inr ⟨(wd hw 5 rfl), (wd hw 15 rfl)⟩)
  have E_STRING := Exa.start ev_STRING hnba
  obtain ⟨s_INTEGER, ev_INTEGER⟩ := exa_v hnbb
  have S_INTEGER := Sta.start ev_INTEGER (Or.inr ⟨(wd hw 5 rfl), (wd hw 18 rfl)⟩)
  have E_INTEGER := Exa.start ev_INTEGER hnbb
  have H : En s s_OTHER s_STRING s_INTEGER := ⟨S_OTHER, E_OTHER, S_STRING, E_STRING, S_INTEGER, E_INTEGER⟩
  obtain ⟨n, o, h1, h2, h3, _, L, rfl, ⟨rfl, N⟩, hq⟩ := rm0 l s _ hw s.heap.size s.heap (Old.start s) s_OTHER s_STRING s_INTEGER H i0 i1  tables_1 p e ha hc hk s m _ below hf ((Spec.applies_iff_loose hf).mp happ).1 ⟨rfl, State.Warmed39.refl s, rfl⟩ trivial
  refine ⟨n, _, h1, h2, h3, hpost _ _ _ _ _ _ ⟨Cond.after_iff.mpr rfl, Cond.after_iff.mpr (eq_i res_at (Term.int_eval (1)) rfl), trivial⟩ ⟨hq.1, hq.2.1, (hq.2.2.sift fun y hy => Or.inr (N y hy)).mono (by decide) (by decide)⟩⟩
theorem main_1_1 : Claimed_1_1 := comes_1 fun _ _ _ _ _ _ h hF => ⟨h.1, hF⟩
theorem main_1_2 : Claimed_1_2 := comes_1 fun _ _ _ _ _ _ h hF => ⟨h.2.1, hF⟩
end Jvm.Pilot.@@N@@
namespace Jvm.Pilot.@@N@@
open Jvm Jvm.ClassFile Sem Op Lib Jvm.Free Jvm.Stand Jvm.Pilot.@@N@@.Jvm.D
/-! MADE BY PROGRAM (witnessworld.py) out of the Statement's table words and the real class files: 12 classes; the members and pool entries that the words name. The judged class is class 1, her method 2. -/
namespace start1
open Jvm.ClassFile
def u (s : String) : CpInfo := .utf8 (stringToUtf16 s)
/-- a pool by its gaps: so many unusable entries, then the entry; so many at the end -/
def gap : Nat → List CpInfo → List CpInfo
  | 0, r => r
  | n + 1, r => .unusable :: gap n r
def poolList (es : List (Nat × CpInfo)) (last : Nat) : List CpInfo := es.foldr (fun e r => gap e.1 (e.2 :: r)) (gap last [])
def pool (es : List (Nat × CpInfo)) (last : Nat) : Array CpInfo := ⟨poolList es last⟩
def fileOf (pool : Array CpInfo) (this : Nat) (attrs : Array Attribute := #[]) (ms : Array MethodInfo := #[]) (fl : Nat := 33) (sup : Nat := 0) (ifs : Array Nat := #[]) (fds : Array FieldInfo := #[]) : ClassFile where
  minorVersion := 0
  majorVersion := 65
  constantPool := pool
  accessFlags := fl
  thisClass := this
  superClass := sup
  interfaces := ifs
  fields := fds
  methods := ms
  attributes := attrs
def plain (name : String) (sup : Option ClassId) : Class where
  name := name
  kind := .ordinary
  loader := none
  accessFlags := 33
  super := sup
  interfaces := #[]
  cf := none
  fields := #[]
  methods := #[]
  instanceTypes := #[]
  staticTypes := #[]
  resolved := #[]
  callSites := []
  init := .initialized
  statics := none
  mirror := none

def pool0 : Array CpInfo := pool [(5, u "<init>"), (0, u "()V"), (1, .class_ 10), (1, u "java/lang/Object")] 113

def k0m0 : Method := { name := "<init>", desc := "()V", sig := { parameters := [], returnType := none }, accessFlags := 1, code := none }
/-- java/lang/Object -/
def k0 : Class := { plain "java/lang/Object" none with
  accessFlags := 33
  interfaces := #[]
  cf := some (fileOf pool0 8 #[] #[{ accessFlags := 1, nameIndex := 5, descriptorIndex := 6, attributes := #[] }] 33 0 #[] #[])
  fields := #[]
  methods := #[k0m0]
  instanceTypes := #[]
  staticTypes := #[]
  resolved := Array.replicate 124 none
  statics := none }

def pool1 : Array CpInfo := pool [(2, .class_ 4), (1, u "java/lang/Object"), (0, u "<init>"), (0, u "()V"), (2, .integer 2147483648), (0, .integer 2147483647), (0, .methodref 12 13), (0, .class_ 14), (0, .nameAndType 15 16), (0, u "com/example/tributary/tributary/source/rdb/Column$Kind"), (0, u "of"), (0, u "(I)Lcom/example/tributary/tributary/source/rdb/Column$Kind;"), (0, .methodref 18 19), (0, .class_ 20), (0, .nameAndType 21 22), (0, u "com/example/tributary/tributary/source/rdb/KindOfPinLaw"), (0, u "expected"), (0, u "(I)I"), (0, .fieldref 12 24), (0, .nameAndType 25 26), (0, u "STRING"), (0, u "Lcom/example/tributary/tributary/source/rdb/Column$Kind;"), (0, .fieldref 12 28), (0, .nameAndType 29 26), (0, u "INTEGER"), (0, .fieldref 12 31), (0, .nameAndType 32 26), (0, u "OTHER"), (3, u "law"), (0, u "(II)Z")] 8

def k1m0 : Method := { name := "<init>", desc := "()V", sig := { parameters := [], returnType := none }, accessFlags := 1, code := none }
def k1c1 : Code := { maxStack := 2, maxLocals := 1, code := method_2_code, exceptionTable := #[], attributes := #[] }
def k1m1 : Method := { name := "expected", desc := "(I)I", sig := { parameters := [.int], returnType := some .int }, accessFlags := 10, code := some k1c1 }
def k1c2 : Code := { maxStack := 4, maxLocals := 6, code := code, exceptionTable := #[], attributes := #[] }
def k1m2 : Method := { name := "law", desc := "(II)Z", sig := { parameters := [.int, .int], returnType := some .boolean }, accessFlags := 9, code := some k1c2 }
/-- com/example/tributary/tributary/source/rdb/KindOfPinLaw -/
def k1 : Class := { plain "com/example/tributary/tributary/source/rdb/KindOfPinLaw" (some 0) with
  accessFlags := 49
  interfaces := #[]
  cf := some (fileOf pool1 18 #[] #[{ accessFlags := 1, nameIndex := 5, descriptorIndex := 6, attributes := #[] }, { accessFlags := 10, nameIndex := 21, descriptorIndex := 22, attributes := #[] }, { accessFlags := 9, nameIndex := 36, descriptorIndex := 37, attributes := #[] }] 49 2 #[] #[])
  fields := #[]
  methods := #[k1m0, k1m1, k1m2]
  instanceTypes := #[]
  staticTypes := #[]
  resolved := Array.replicate 46 none
  statics := none }

def pool2 : Array CpInfo := pool [(1, .class_ 2), (0, u "java/lang/constant/Constable"), (0, .class_ 4), (0, u "java/lang/Object")] 6

/-- java/lang/constant/Constable -/
def k2 : Class := { plain "java/lang/constant/Constable" (some 0) with
  accessFlags := 1537
  interfaces := #[]
  cf := some (fileOf pool2 1 #[] #[] 1537 3 #[] #[])
  fields := #[]
  methods := #[]
  instanceTypes := #[]
  staticTypes := #[]
  resolved := Array.replicate 11 none
  statics := none }

def pool3 : Array CpInfo := pool [(1, .class_ 2), (0, u "java/lang/Comparable"), (0, .class_ 4), (0, u "java/lang/Object")] 7

/-- java/lang/Comparable -/
def k3 : Class := { plain "java/lang/Comparable" (some 0) with
  accessFlags := 1537
  interfaces := #[]
  cf := some (fileOf pool3 1 #[] #[] 1537 3 #[] #[])
  fields := #[]
  methods := #[]
  instanceTypes := #[]
  staticTypes := #[]
  resolved := Array.replicate 12 none
  statics := none }

def pool4 : Array CpInfo := pool [(1, .class_ 2), (0, u "java/io/Serializable"), (0, .class_ 4), (0, u "java/lang/Object")] 2

/-- java/io/Serializable -/
def k4 : Class := { plain "java/io/Serializable" (some 0) with
  accessFlags := 1537
  interfaces := #[]
  cf := some (fileOf pool4 1 #[] #[] 1537 3 #[] #[])
  fields := #[]
  methods := #[]
  instanceTypes := #[]
  staticTypes := #[]
  resolved := Array.replicate 7 none
  statics := none }

def pool5 : Array CpInfo := pool [(2, .class_ 4), (1, u "java/lang/Enum"), (0, u "name"), (0, u "Ljava/lang/String;"), (2, u "ordinal"), (0, u "I"), (1, .class_ 14), (1, u "java/lang/Object"), (4, u "hash"), (86, .class_ 108), (1, u "java/lang/Enum$EnumDesc"), (2, .class_ 112), (0, u "java/lang/constant/Constable"), (0, .class_ 114), (0, u "java/lang/Comparable"), (0, .class_ 116), (0, u "java/io/Serializable")] 87

/-- java/lang/Enum -/
def k5 : Class := { plain "java/lang/Enum" (some 0) with
  accessFlags := 1057
  interfaces := #[2, 3, 4]
  cf := some (fileOf pool5 2 #[.nestMembers #[106]] #[] 1057 12 #[111, 113, 115] #[{ accessFlags := 18, nameIndex := 5, descriptorIndex := 6, attributes := #[] }, { accessFlags := 18, nameIndex := 9, descriptorIndex := 10, attributes := #[] }, { accessFlags := 2, nameIndex := 19, descriptorIndex := 10, attributes := #[] }])
  fields := #[{ name := "name", type := (.object "java/lang/String"), accessFlags := 18, slot := 0, constantValue := 0 }, { name := "ordinal", type := .int, accessFlags := 18, slot := 1, constantValue := 0 }, { name := "hash", type := .int, accessFlags := 2, slot := 2, constantValue := 0 }]
  methods := #[]
  instanceTypes := #[(.object "java/lang/String"), .int, .int]
  staticTypes := #[]
  resolved := Array.replicate 204 none
  statics := none }

def pool6 : Array CpInfo := pool [(1, .class_ 2), (0, u "com/example/tributary/tributary/source/rdb/Column$Kind"), (0, .fieldref 1 4), (0, .nameAndType 5 6), (0, u "STRING"), (0, u "Lcom/example/tributary/tributary/source/rdb/Column$Kind;"), (0, .fieldref 1 8), (0, .nameAndType 9 6), (0, u "INTEGER"), (0, .fieldref 1 11), (0, .nameAndType 12 6), (0, u "OTHER"), (2, u "$VALUES"), (0, u "[Lcom/example/tributary/tributary/source/rdb/Column$Kind;"), (6, .class_ 25), (1, u "java/lang/Enum"), (21, u "of"), (0, u "(I)Lcom/example/tributary/tributary/source/rdb/Column$Kind;"), (6, .class_ 56), (0, u "com/example/tributary/tributary/source/rdb/Column")] 2

def k6c0 : Code := { maxStack := 1, maxLocals := 1, code := prog_30_method_4_code, exceptionTable := #[], attributes := #[] }
def k6m0 : Method := { name := "of", desc := "(I)Lcom/example/tributary/tributary/source/rdb/Column$Kind;", sig := { parameters := [.int], returnType := some (.object "com/example/tributary/tributary/source/rdb/Column$Kind") }, accessFlags := 8, code := some k6c0 }
/-- com/example/tributary/tributary/source/rdb/Column$Kind -/
def k6 : Class := { plain "com/example/tributary/tributary/source/rdb/Column$Kind" (some 5) with
  accessFlags := 16432
  interfaces := #[]
  cf := some (fileOf pool6 1 #[.nestHost 55] #[{ accessFlags := 8, nameIndex := 47, descriptorIndex := 48, attributes := #[] }] 16432 23 #[] #[{ accessFlags := 16409, nameIndex := 5, descriptorIndex := 6, attributes := #[] }, { accessFlags := 16409, nameIndex := 9, descriptorIndex := 6, attributes := #[] }, { accessFlags := 16409, nameIndex := 12, descriptorIndex := 6, attributes := #[] }, { accessFlags := 4122, nameIndex := 15, descriptorIndex := 16, attributes := #[] }])
  fields := #[{ name := "STRING", type := (.object "com/example/tributary/tributary/source/rdb/Column$Kind"), accessFlags := 16409, slot := 0, constantValue := 0 }, { name := "INTEGER", type := (.object "com/example/tributary/tributary/source/rdb/Column$Kind"), accessFlags := 16409, slot := 1, constantValue := 0 }, { name := "OTHER", type := (.object "com/example/tributary/tributary/source/rdb/Column$Kind"), accessFlags := 16409, slot := 2, constantValue := 0 }, { name := "$VALUES", type := (.array (.object "com/example/tributary/tributary/source/rdb/Column$Kind")), accessFlags := 4122, slot := 3, constantValue := 0 }]
  methods := #[k6m0]
  instanceTypes := #[(.object "java/lang/String"), .int, .int]
  staticTypes := #[(.object "com/example/tributary/tributary/source/rdb/Column$Kind"), (.object "com/example/tributary/tributary/source/rdb/Column$Kind"), (.object "com/example/tributary/tributary/source/rdb/Column$Kind"), (.array (.object "com/example/tributary/tributary/source/rdb/Column$Kind"))]
  resolved := Array.replicate 59 none
  statics := some 0 }

def pool7 : Array CpInfo := pool [(1, u "java/lang/Cloneable"), (0, .class_ 1), (0, u "java/lang/Object"), (0, .class_ 3)] 3

/-- java/lang/Cloneable -/
def k7 : Class := { plain "java/lang/Cloneable" (some 0) with
  accessFlags := 1537
  interfaces := #[]
  cf := some (fileOf pool7 2 #[] #[] 1537 4 #[] #[])
  fields := #[]
  methods := #[]
  instanceTypes := #[]
  staticTypes := #[]
  resolved := Array.replicate 8 none
  statics := none }

/-- the primitive byte -/
def k8 : Class := { plain "byte" none with kind := .primitive 'B', accessFlags := 0x411 }
/-- [B -/
def k9 : Class := { plain "[B" (some 0) with kind := .array 8 .byte, interfaces := #[7, 4], accessFlags := 1041 }

/-- the primitive int -/
def k10 : Class := { plain "int" none with kind := .primitive 'I', accessFlags := 0x411 }
/-- [I -/
def k11 : Class := { plain "[I" (some 0) with kind := .array 10 .int, interfaces := #[7, 4], accessFlags := 1041 }

def heap : Heap := #[{ cls := 6, slots := #[.ref 2, .ref 3, .ref 1, .null], vm := .statics 6 },
  { cls := 6, slots := #[.null, .int 0, .int 0], vm := .none },
  { cls := 6, slots := #[.null, .int 1, .int 0], vm := .none },
  { cls := 6, slots := #[.null, .int 2, .int 0], vm := .none }]
def classes : Array Class := #[k0, k1, k2, k3, k4, k5, k6, k7, k8, k9, k10, k11]
def interned : List (Array UInt16 × Addr) := []
def slotsUsed : Nat := 13
def theMethod : MethodId := ⟨1, 2⟩
def args0 : Array Value := #[.int 2, .int 5]
def aboutOver (below : List Frame) : State where
  vm := { classes := classes, interned := interned.toArray }
  heap := heap
  slotsUsed := slotsUsed
  threads := #[{ frames := .invoking theMethod args0 :: below }]
def below0 : List Frame := [.native { method := ⟨0, 0⟩, args := #[] }]
def about1 : State := aboutOver below0
def p0 : Program := .bare "" "" ""
def e0 : Env := launch0.env 0 0 0
theorem w_frames : about1.frames = Frame.invoking theMethod args0 :: below0 := rfl
set_option maxRecDepth 65536 in
theorem w_args : argsFit about1.vm theMethod args0 = true := by decide +kernel
set_option maxRecDepth 65536 in
theorem w_heap : heapFits about1 = true := by decide +kernel
set_option maxRecDepth 65536 in
theorem w_runnable : about1.curStatus? = some .runnable := by decide +kernel
set_option maxRecDepth 65536 in
theorem w_alone : about1.alone = true := by decide +kernel
set_option maxRecDepth 65536 in
theorem w_named : about1.methodNamed? x = some theMethod := by decide +kernel
set_option maxRecDepth 65536 in
theorem w_hears : about1.hears theMethod below0 = true := by decide +kernel
set_option maxRecDepth 65536 in
theorem w_ripe : about1.ripe theMethod args0 below0 = true := by decide +kernel
theorem w_running : about1.status = .running := rfl
set_option maxRecDepth 65536 in
theorem w_room : about1.hasRoom e0.platform room_1 = true :=
  launch0.hasRoom_least _ room_1 (by decide +kernel) (by decide +kernel) (by decide +kernel) (by decide +kernel) (by decide +kernel) (by decide +kernel)
theorem allAtoms_all (ts : List Jvm.Cond) (a : Array Jvm.Value) (st : Jvm.State) : (allAtoms ts).before a st = ts.all (fun c => c.before a st) := by
  induction ts with
  | nil => rfl
  | cons c t ih =>
    show (Jvm.Cond.and c (allAtoms t)).before a st = _
    rw [Jvm.Cond.before_and, ih, List.all_cons]
def words1 : List Jvm.Cond := Jvm.Cond.code x code maxLocals ret :: tables_1
/-- a 'code' word, met by the world's own term for the bytes: nothing is compared byte by byte -/
theorem code_word {y : MethodName} {bytes : ByteArray} {mx : Nat} {rt : Option FieldType} {a : Array Value} {s : State} {m : MethodId} {meth : Method} {c : Code} (h1 : s.methodNamed? y = some m) (h2 : s.vm.method? m = some meth) (h3 : meth.code = some c) (h4 : c.code = bytes)
    (h5 : (c.maxLocals == mx && c.exceptionTable.isEmpty && decide (c.maxStack ≤ mostOperands) && decide (meth.sig.returnType = rt) && !meth.locks && decide (parseMethodDescriptor y.desc = some meth.sig)) = true) : (Jvm.Cond.code y bytes mx rt).before a s = true := by
  simp only [Bool.and_eq_true, beq_iff_eq, Bool.not_eq_true', decide_eq_true_eq] at h5
  obtain ⟨⟨⟨⟨⟨g1, g2⟩, g3⟩, g4⟩, g5⟩, g6⟩ := h5
  simp [Cond.before, Cond.holds, Cond.value, h1, h2, h3, h4, g1, g2, g3, g4, g5, g6]
def isCode : Jvm.Cond → Bool
  | .code _ _ _ _ => true
  | _ => false
theorem all_split {L : List Jvm.Cond} {P : Jvm.Cond → Bool} (h1 : L.all (fun c => isCode c || P c) = true) (h2 : ∀ c ∈ L.filter isCode, P c = true) : L.all P = true := by
  refine List.all_eq_true.mpr fun c hc => ?_
  have h := List.all_eq_true.mp h1 c hc
  rcases Bool.eq_false_or_eq_true (isCode c) with hi | hi
  · exact h2 c (List.mem_filter.mpr ⟨hc, hi⟩)
  · simpa [hi] using h
set_option maxRecDepth 65536 in
theorem w_c0 : (Jvm.Cond.code x code maxLocals ret).before args0 about1 = true := code_word (m := ⟨1, 2⟩) (meth := k1m2) (c := k1c2) (by decide +kernel) rfl rfl rfl (by decide +kernel)
set_option maxRecDepth 65536 in
theorem w_c1 : (Jvm.Cond.code ({ cls := "com/example/tributary/tributary/source/rdb/Column$Kind", name := "of", desc := "(I)Lcom/example/tributary/tributary/source/rdb/Column$Kind;" } : Jvm.MethodName) prog_30_method_4_code (1 : Nat) (Option.some (Jvm.ClassFile.FieldType.object "com/example/tributary/tributary/source/rdb/Column$Kind"))).before args0 about1 = true := code_word (m := ⟨6, 0⟩) (meth := k6m0) (c := k6c0) (by decide +kernel) rfl rfl rfl (by decide +kernel)
set_option maxRecDepth 65536 in
theorem w_c2 : (Jvm.Cond.code ({ cls := "com/example/tributary/tributary/source/rdb/KindOfPinLaw", name := "expected", desc := "(I)I" } : Jvm.MethodName) method_2_code (1 : Nat) (Option.some Jvm.ClassFile.FieldType.int)).before args0 about1 = true := code_word (m := ⟨1, 1⟩) (meth := k1m1) (c := k1c1) (by decide +kernel) rfl rfl rfl (by decide +kernel)
def codes1 : List Jvm.Cond := [Jvm.Cond.code x code maxLocals ret, Jvm.Cond.code ({ cls := "com/example/tributary/tributary/source/rdb/Column$Kind", name := "of", desc := "(I)Lcom/example/tributary/tributary/source/rdb/Column$Kind;" } : Jvm.MethodName) prog_30_method_4_code (1 : Nat) (Option.some (Jvm.ClassFile.FieldType.object "com/example/tributary/tributary/source/rdb/Column$Kind")), Jvm.Cond.code ({ cls := "com/example/tributary/tributary/source/rdb/KindOfPinLaw", name := "expected", desc := "(I)I" } : Jvm.MethodName) method_2_code (1 : Nat) (Option.some Jvm.ClassFile.FieldType.int)]
set_option maxRecDepth 65536 in
theorem codes_eq : words1.filter isCode = codes1 := rfl
theorem w_codes : ∀ c ∈ words1.filter isCode, c.before args0 about1 = true := by
  rw [codes_eq]
  intro c hc
  simp only [codes1, List.mem_cons, List.not_mem_nil, or_false] at hc
  rcases hc with rfl | rfl | rfl
  · exact w_c0
  · exact w_c1
  · exact w_c2
set_option maxRecDepth 65536 in
theorem w_t1 : words1.all (fun c => isCode c || c.before args0 about1) = true := by decide +kernel
theorem w_tables : (allAtoms (Jvm.Cond.code x code maxLocals ret :: tables_1)).before args0 about1 = true := by
  rw [allAtoms_all]
  show words1.all (fun c => c.before args0 about1) = true
  refine all_split ?_ w_codes
  rw [w_t1]
set_option maxRecDepth 65536 in
theorem w_case : (Jvm.Cond.and given_1 narrow_1).before args0 about1 = true := by decide +kernel
theorem w_applies : (headSpec (Jvm.Cond.code x code maxLocals ret :: tables_1) room_1).applies x e0.platform about1 = true :=
  (Spec.applies_iff w_frames).mpr ⟨w_running, w_runnable, w_alone, w_named, w_hears, w_ripe, w_room, w_tables⟩
theorem atStart : AtStart classFile x code maxLocals ret World_1 tables_1 room_1 Calls_1 rest_1 Pre_1 launch0 p0 e0 about1 theMethod args0 below0 :=
  ⟨lists_1, trivial, launch0.admits_env _ _ _, launch0.least_env, fairChoices_fair.cas, fairChoices_fair.clock, w_frames, w_args, w_heap, w_applies, trivial, trivial, w_case⟩
end start1
theorem witness_1 : WitnessClaimed_1 := ⟨start1.p0, start1.e0, start1.about1, start1.theMethod, start1.args0, start1.below0, start1.atStart⟩
end Jvm.Pilot.@@N@@
