import JvmDerived
import JvmDerived.Pilot.@@N@@Statement
import JvmDerived.Pilot.@@N@@Code
set_option linter.unusedVariables false
set_option linter.unusedSimpArgs false
namespace Jvm.Own
open Sem ClassFile Op Lib Jvm.Stand Jvm.Free Jvm.LawKit Jvm.RoadKit
/-- what of a walk never changes: program, environment, the invocation's state, method, arguments, frames below, method, code -/
abbrev Ctx : Type := Program × Env × State × MethodId × Array Value × List Frame × Method × Code × (Outcome → State → List Loc → Nat → Nat → Prop)
abbrev Ctx.p (K : Ctx) : Program := K.1
abbrev Ctx.e (K : Ctx) : Env := K.2.1
abbrev Ctx.s (K : Ctx) : State := K.2.2.1
abbrev Ctx.m (K : Ctx) : MethodId := K.2.2.2.1
abbrev Ctx.args (K : Ctx) : Array Value := K.2.2.2.2.1
abbrev Ctx.below (K : Ctx) : List Frame := K.2.2.2.2.2.1
abbrev Ctx.meth (K : Ctx) : Method := K.2.2.2.2.2.2.1
abbrev Ctx.c (K : Ctx) : Code := K.2.2.2.2.2.2.2.1
abbrev Ctx.F (K : Ctx) : Outcome → State → List Loc → Nat → Nat → Prop := K.2.2.2.2.2.2.2.2
/-- the run from S comes to the end of the invocation, in G -/
def Ends (K : Ctx) (S : State) (G : Outcome → State → Prop) : Prop := ∃ s₂ o, Steps K.p.tables K.e K.below S s₂ ∧ s₂.status = .running ∧ Ended s₂ K.below o ∧ G o s₂
theorem Ends.step {K : Ctx} {S S' : State} {G : Outcome → State → Prop} (f : ∀ t, Steps K.p.tables K.e K.below S' t → Steps K.p.tables K.e K.below S t) (h : Ends K S' G) : Ends K S G := by
  obtain ⟨a, b, c, d⟩ := h
  exact ⟨a, b, f _ c, d⟩
/-- from every state that stands in this walk with the heap h, cc cells and ss slots made, the frame (pc, ls, st) runs to a return in Q -/
def W (l : Launch) (Z : State) (R : Room) (K : Ctx) (Q : Option Value → Heap → Prop) (h : Heap) (cc ss pc : Nat) (ls : Array Slot) (st : List Value) : Prop :=
  ∀ (T : State) (L : List Loc), Stand K.p l K.e R K.s K.m K.args K.below K.meth K.c T L cc ss → Fr Z.heap.size L → T.heap = h →
    Ends K (T.setTop (mkF K.m pc ls st)) (fun o U => ∃ v L, o = .returned v ∧ (Q v U.heap ∧ Fr Z.heap.size L) ∧ K.F o U L R.cells R.slots)
def Ok (Z : State) (K : Ctx) (y : MethodName) (code : ByteArray) (maxL : Nat) (ret : Option FieldType) : Prop :=
  K.p.tables.exec = Jvm.exec ∧ Z.Warmed39 K.s.vm ∧ K.c.code = code ∧ K.c.maxLocals = maxL ∧ K.s.vm.findClass y.cls = some K.m.cls ∧ K.meth.sig.returnType = ret ∧ K.meth.name = y.name ∧ K.meth.locks = false ∧ ∀ o U L c n, FrameEnd K.s o U L c n → K.F o U L c n
/-- a callee's contract: at the heap h0, with the arguments as, it returns in Q -/
def Con (l : Launch) (Z : State) (y : MethodName) (code : ByteArray) (maxL : Nat) (ret : Option FieldType) (rm : Room) (as : Array Value) (h0 : Heap) (Q : Option Value → Heap → Prop) : Prop :=
  ∀ ws : List Jvm.Cond, MetFree l y (head1 (Jvm.Cond.code y code maxL ret :: ws) rm) (fun a U => a = as ∧ Z.Warmed39 U.vm ∧ U.heap = h0) (fun _ _ _ _ _ => True) (fun _ U o U' => ∃ v L, o = .returned v ∧ (Q v U'.heap ∧ Fr Z.heap.size L) ∧ FrameEnd U o U' L rm.cells rm.slots)
def cdT : ClassFile.Cond → Int32 → Int32 → Prop
  | .eq, x, y => x = y
  | .ne, x, y => ¬ (x = y)
  | .lt, x, y => x < y
  | .ge, x, y => ¬ (x < y)
  | .gt, x, y => y < x
  | .le, x, y => ¬ (y < x)
def cdF : ClassFile.Cond → Int32 → Int32 → Prop
  | .eq, x, y => ¬ (x = y)
  | .ne, x, y => x = y
  | .lt, x, y => ¬ (x < y)
  | .ge, x, y => x < y
  | .gt, x, y => ¬ (y < x)
  | .le, x, y => y < x
theorem cd_t {cd : ClassFile.Cond} {x y : Int32} (h : cdT cd x y) : if_icmp.holds cd x y = true := by
  cases cd
  · exact (teq h).1
  · exact (feq h).2
  · exact (tlt h).1
  · exact (flt h).2.1
  · exact (tlt h).2.2.1
  · exact (flt h).2.2.2
theorem cd_f {cd : ClassFile.Cond} {x y : Int32} (h : cdF cd x y) : if_icmp.holds cd x y = false := by
  cases cd
  · exact (feq h).1
  · exact (teq h).2
  · exact (flt h).1
  · exact (tlt h).2.1
  · exact (flt h).2.2.1
  · exact (tlt h).2.2.2
theorem cd_or (cd : ClassFile.Cond) (x y : Int32) : cdT cd x y ∨ cdF cd x y := by
  cases cd
  · exact Classical.em _
  · exact (Classical.em _).symm
  · exact Classical.em _
  · exact (Classical.em _).symm
  · exact Classical.em _
  · exact (Classical.em _).symm
section Walk
variable {l : Launch} {Z : State} {R : Room} {K : Ctx} {Q : Option Value → Heap → Prop} {h : Heap} {cc ss pc : Nat} {ls : Array Slot} {st : List Value} {y : MethodName} {code : ByteArray} {maxL : Nat} {ret : Option FieldType} {a0 : Array Value} {ts : List Jvm.Cond}
theorem Con.of {rm : Room} {as : Array Value} {h0 : Heap} (hp : plainFor y = true) (ls : Array Slot) (hf : ∀ m, entryFrame m as maxL = mkF m 0 ls []) (hW : ∀ K : Ctx, Ok Z K y code maxL ret → W l Z rm K Q h0 0 0 0 ls []) : Con l Z y code maxL ret rm as h0 Q := by
  intro ws
  refine MetFree.of_bodySF hp hisR ?_
  intro p e s m args below meth c s₁ Bd hml0 hP hK
  obtain ⟨rfl, hZ, hh⟩ := hP
  have e0 : s₁.heap = h0 := by rw [← hh, Bd.state]; rfl
  have X0 : Stand p l e rm s m args below meth c s₁ [] 0 0 := Stand.of_body Bd
  rw [hf]
  exact hW (p, e, s, m, args, below, meth, c, FrameEnd s) ⟨Bd.exec, hZ, Bd.bytes, hml0, findClass_of_methodNamed Bd.named, Bd.returns, (name_of_methodNamed Bd.named Bd.method).1, Bd.notSynchronized, fun _ _ _ _ _ q => q⟩ s₁ [] X0 (Fr.nil _) e0
theorem W.more {cc' ss' : Nat} (hc : cc ≤ cc') (hs : ss ≤ ss') (H : W l Z R K Q h cc' ss' pc ls st) : W l Z R K Q h cc ss pc ls st := fun T L X N e => H T L (X.more hc hs) N e

theorem W.iload (ok : Ok Z K y code maxL ret) {k : Nat} {v : Int32} (hd : decode code pc = .ok (.iload k, 2)) (pc' : Nat) (hl : ls[k]? = some (.val (.int v))) (H : W l Z R K Q h cc ss pc' ls (.int v :: st)) (hp : pc + 2 = pc' := by rfl) : W l Z R K Q h cc ss pc ls (st) := by
  subst hp
  exact fun T L X N e => Ends.step (fun t k => XS.iload X.here ok.1 rfl (hb ok.2.2.1 hd) hl k) (H T L X N e)
theorem W.lload (ok : Ok Z K y code maxL ret) {k : Nat} {v : Int64} (hd : decode code pc = .ok (.lload k, 2)) (pc' : Nat) (hl : ls[k]? = some (.val (.long v))) (H : W l Z R K Q h cc ss pc' ls (.long v :: st)) (hp : pc + 2 = pc' := by rfl) : W l Z R K Q h cc ss pc ls (st) := by
  subst hp
  exact fun T L X N e => Ends.step (fun t k => XS.lload X.here ok.1 rfl (hb ok.2.2.1 hd) hl k) (H T L X N e)
theorem W.aload (ok : Ok Z K y code maxL ret) {k : Nat} {v : Value} (hd : decode code pc = .ok (.aload k, 2)) (pc' : Nat) (hl : ls[k]? = some (.val v)) (hv : v.isRef = true) (H : W l Z R K Q h cc ss pc' ls (v :: st)) (hp : pc + 2 = pc' := by rfl) : W l Z R K Q h cc ss pc ls (st) := by
  subst hp
  exact fun T L X N e => Ends.step (fun t k => XS.aload X.here ok.1 rfl (hb ok.2.2.1 hd) hl hv k) (H T L X N e)
theorem W.istore (ok : Ok Z K y code maxL ret) {k : Nat} {v : Int32} (hd : decode code pc = .ok (.istore k, 2)) (pc' : Nat) (ls' : Array Slot) (hl : storeLocals ls k (.int v) = some ls') (H : W l Z R K Q h cc ss pc' ls' (st)) (hp : pc + 2 = pc' := by rfl) : W l Z R K Q h cc ss pc ls (.int v :: st) := by
  subst hp
  exact fun T L X N e => Ends.step (fun t k => XS.istore X.here ok.1 rfl (hb ok.2.2.1 hd) rfl hl k) (H T L X N e)
theorem W.lstore (ok : Ok Z K y code maxL ret) {k : Nat} {v : Int64} (hd : decode code pc = .ok (.lstore k, 2)) (pc' : Nat) (ls' : Array Slot) (hl : storeLocals ls k (.long v) = some ls') (H : W l Z R K Q h cc ss pc' ls' (st)) (hp : pc + 2 = pc' := by rfl) : W l Z R K Q h cc ss pc ls (.long v :: st) := by
  subst hp
  exact fun T L X N e => Ends.step (fun t k => XS.lstore X.here ok.1 rfl (hb ok.2.2.1 hd) rfl hl k) (H T L X N e)
theorem W.astore (ok : Ok Z K y code maxL ret) {k : Nat} {v : Value} (hd : decode code pc = .ok (.astore k, 2)) (pc' : Nat) (ls' : Array Slot) (hv : v.isRef = true) (hl : storeLocals ls k v = some ls') (H : W l Z R K Q h cc ss pc' ls' (st)) (hp : pc + 2 = pc' := by rfl) : W l Z R K Q h cc ss pc ls (v :: st) := by
  subst hp
  exact fun T L X N e => Ends.step (fun t k => XS.astore X.here ok.1 rfl (hb ok.2.2.1 hd) rfl hv hl k) (H T L X N e)
theorem W.iloadN (ok : Ok Z K y code maxL ret) {k : Fin 4} {v : Int32} (hd : decode code pc = .ok (.iload_n k, 1)) (pc' : Nat) (hl : ls[k.val]? = some (.val (.int v))) (H : W l Z R K Q h cc ss pc' ls (.int v :: st)) (hp : pc + 1 = pc' := by rfl) : W l Z R K Q h cc ss pc ls (st) := by
  subst hp
  exact fun T L X N e => Ends.step (fun t k => XS.iloadN X.here ok.1 rfl (hb ok.2.2.1 hd) hl k) (H T L X N e)
theorem W.lloadN (ok : Ok Z K y code maxL ret) {k : Fin 4} {v : Int64} (hd : decode code pc = .ok (.lload_n k, 1)) (pc' : Nat) (hl : ls[k.val]? = some (.val (.long v))) (H : W l Z R K Q h cc ss pc' ls (.long v :: st)) (hp : pc + 1 = pc' := by rfl) : W l Z R K Q h cc ss pc ls (st) := by
  subst hp
  exact fun T L X N e => Ends.step (fun t k => XS.lloadN X.here ok.1 rfl (hb ok.2.2.1 hd) hl k) (H T L X N e)
theorem W.aloadN (ok : Ok Z K y code maxL ret) {k : Fin 4} {v : Value} (hd : decode code pc = .ok (.aload_n k, 1)) (pc' : Nat) (hl : ls[k.val]? = some (.val v)) (hv : v.isRef = true) (H : W l Z R K Q h cc ss pc' ls (v :: st)) (hp : pc + 1 = pc' := by rfl) : W l Z R K Q h cc ss pc ls (st) := by
  subst hp
  exact fun T L X N e => Ends.step (fun t k => XS.aloadN X.here ok.1 rfl (hb ok.2.2.1 hd) hl hv k) (H T L X N e)
theorem W.istoreN (ok : Ok Z K y code maxL ret) {k : Fin 4} {v : Int32} (hd : decode code pc = .ok (.istore_n k, 1)) (pc' : Nat) (ls' : Array Slot) (hl : storeLocals ls k.val (.int v) = some ls') (H : W l Z R K Q h cc ss pc' ls' (st)) (hp : pc + 1 = pc' := by rfl) : W l Z R K Q h cc ss pc ls (.int v :: st) := by
  subst hp
  exact fun T L X N e => Ends.step (fun t k => XS.istoreN X.here ok.1 rfl (hb ok.2.2.1 hd) rfl hl k) (H T L X N e)
theorem W.lstoreN (ok : Ok Z K y code maxL ret) {k : Fin 4} {v : Int64} (hd : decode code pc = .ok (.lstore_n k, 1)) (pc' : Nat) (ls' : Array Slot) (hl : storeLocals ls k.val (.long v) = some ls') (H : W l Z R K Q h cc ss pc' ls' (st)) (hp : pc + 1 = pc' := by rfl) : W l Z R K Q h cc ss pc ls (.long v :: st) := by
  subst hp
  exact fun T L X N e => Ends.step (fun t k => XS.lstoreN X.here ok.1 rfl (hb ok.2.2.1 hd) rfl hl k) (H T L X N e)
theorem W.astoreN (ok : Ok Z K y code maxL ret) {k : Fin 4} {v : Value} (hd : decode code pc = .ok (.astore_n k, 1)) (pc' : Nat) (ls' : Array Slot) (hv : v.isRef = true) (hl : storeLocals ls k.val v = some ls') (H : W l Z R K Q h cc ss pc' ls' (st)) (hp : pc + 1 = pc' := by rfl) : W l Z R K Q h cc ss pc ls (v :: st) := by
  subst hp
  exact fun T L X N e => Ends.step (fun t k => XS.astoreN X.here ok.1 rfl (hb ok.2.2.1 hd) rfl hv hl k) (H T L X N e)
theorem W.iconst (ok : Ok Z K y code maxL ret) {i : Int} (hd : decode code pc = .ok (.iconst i, 1)) (pc' : Nat) (v : Int32) (hv : Int32.ofInt i = v) (H : W l Z R K Q h cc ss pc' ls (.int v :: st)) (hp : pc + 1 = pc' := by rfl) : W l Z R K Q h cc ss pc ls (st) := by
  subst hp
  subst hv
  exact fun T L X N e => Ends.step (fun t k => XS.iconst X.here ok.1 rfl (hb ok.2.2.1 hd)  k) (H T L X N e)
theorem W.bipush (ok : Ok Z K y code maxL ret) {i : Int} (hd : decode code pc = .ok (.bipush i, 2)) (pc' : Nat) (v : Int32) (hv : (Int8.ofInt i).toInt32 = v) (H : W l Z R K Q h cc ss pc' ls (.int v :: st)) (hp : pc + 2 = pc' := by rfl) : W l Z R K Q h cc ss pc ls (st) := by
  subst hp
  subst hv
  exact fun T L X N e => Ends.step (fun t k => XS.bipush X.here ok.1 rfl (hb ok.2.2.1 hd)  k) (H T L X N e)
theorem W.sipush (ok : Ok Z K y code maxL ret) {i : Int} (hd : decode code pc = .ok (.sipush i, 3)) (pc' : Nat) (v : Int32) (hv : (Int16.ofInt i).toInt32 = v) (H : W l Z R K Q h cc ss pc' ls (.int v :: st)) (hp : pc + 3 = pc' := by rfl) : W l Z R K Q h cc ss pc ls (st) := by
  subst hp
  subst hv
  exact fun T L X N e => Ends.step (fun t k => XS.sipush X.here ok.1 rfl (hb ok.2.2.1 hd)  k) (H T L X N e)
theorem W.lconst (ok : Ok Z K y code maxL ret) {i : Fin 2} (hd : decode code pc = .ok (.lconst i, 1)) (pc' : Nat) (v : Int64) (hv : Int64.ofNat i = v) (H : W l Z R K Q h cc ss pc' ls (.long v :: st)) (hp : pc + 1 = pc' := by rfl) : W l Z R K Q h cc ss pc ls (st) := by
  subst hp
  subst hv
  exact fun T L X N e => Ends.step (fun t k => XS.lconst X.here ok.1 rfl (hb ok.2.2.1 hd)  k) (H T L X N e)
theorem W.aconstNull (ok : Ok Z K y code maxL ret)  (hd : decode code pc = .ok (.aconst_null, 1)) (pc' : Nat) (H : W l Z R K Q h cc ss pc' ls (.null :: st)) (hp : pc + 1 = pc' := by rfl) : W l Z R K Q h cc ss pc ls (st) := by
  subst hp
  exact fun T L X N e => Ends.step (fun t k => XS.aconstNull X.here ok.1 rfl (hb ok.2.2.1 hd)  k) (H T L X N e)
theorem W.iadd (ok : Ok Z K y code maxL ret) {x z : Int32} (hd : decode code pc = .ok (.iadd, 1)) (pc' : Nat) (H : W l Z R K Q h cc ss pc' ls (.int (x + z) :: st)) (hp : pc + 1 = pc' := by rfl) : W l Z R K Q h cc ss pc ls (.int z :: .int x :: st) := by
  subst hp
  exact fun T L X N e => Ends.step (fun t k => XS.iadd X.here ok.1 rfl (hb ok.2.2.1 hd) rfl k) (H T L X N e)
theorem W.iaddV (ok : Ok Z K y code maxL ret) {x z : Int32} (hd : decode code pc = .ok (.iadd, 1)) (pc' : Nat) (v : Int32) (hv : x + z = v) (H : W l Z R K Q h cc ss pc' ls (.int v :: st)) (hp : pc + 1 = pc' := by rfl) : W l Z R K Q h cc ss pc ls (.int z :: .int x :: st) := by
  subst hp
  subst hv
  exact fun T L X N e => Ends.step (fun t k => XS.iadd X.here ok.1 rfl (hb ok.2.2.1 hd) rfl k) (H T L X N e)
theorem W.isub (ok : Ok Z K y code maxL ret) {x z : Int32} (hd : decode code pc = .ok (.isub, 1)) (pc' : Nat) (H : W l Z R K Q h cc ss pc' ls (.int (x - z) :: st)) (hp : pc + 1 = pc' := by rfl) : W l Z R K Q h cc ss pc ls (.int z :: .int x :: st) := by
  subst hp
  exact fun T L X N e => Ends.step (fun t k => XS.isub X.here ok.1 rfl (hb ok.2.2.1 hd) rfl k) (H T L X N e)
theorem W.isubV (ok : Ok Z K y code maxL ret) {x z : Int32} (hd : decode code pc = .ok (.isub, 1)) (pc' : Nat) (v : Int32) (hv : x - z = v) (H : W l Z R K Q h cc ss pc' ls (.int v :: st)) (hp : pc + 1 = pc' := by rfl) : W l Z R K Q h cc ss pc ls (.int z :: .int x :: st) := by
  subst hp
  subst hv
  exact fun T L X N e => Ends.step (fun t k => XS.isub X.here ok.1 rfl (hb ok.2.2.1 hd) rfl k) (H T L X N e)
theorem W.imul (ok : Ok Z K y code maxL ret) {x z : Int32} (hd : decode code pc = .ok (.imul, 1)) (pc' : Nat) (H : W l Z R K Q h cc ss pc' ls (.int (x * z) :: st)) (hp : pc + 1 = pc' := by rfl) : W l Z R K Q h cc ss pc ls (.int z :: .int x :: st) := by
  subst hp
  exact fun T L X N e => Ends.step (fun t k => XS.imul X.here ok.1 rfl (hb ok.2.2.1 hd) rfl k) (H T L X N e)
theorem W.imulV (ok : Ok Z K y code maxL ret) {x z : Int32} (hd : decode code pc = .ok (.imul, 1)) (pc' : Nat) (v : Int32) (hv : x * z = v) (H : W l Z R K Q h cc ss pc' ls (.int v :: st)) (hp : pc + 1 = pc' := by rfl) : W l Z R K Q h cc ss pc ls (.int z :: .int x :: st) := by
  subst hp
  subst hv
  exact fun T L X N e => Ends.step (fun t k => XS.imul X.here ok.1 rfl (hb ok.2.2.1 hd) rfl k) (H T L X N e)
theorem W.iand (ok : Ok Z K y code maxL ret) {x z : Int32} (hd : decode code pc = .ok (.iand, 1)) (pc' : Nat) (H : W l Z R K Q h cc ss pc' ls (.int (x &&& z) :: st)) (hp : pc + 1 = pc' := by rfl) : W l Z R K Q h cc ss pc ls (.int z :: .int x :: st) := by
  subst hp
  exact fun T L X N e => Ends.step (fun t k => XS.iand X.here ok.1 rfl (hb ok.2.2.1 hd) rfl k) (H T L X N e)
theorem W.iandV (ok : Ok Z K y code maxL ret) {x z : Int32} (hd : decode code pc = .ok (.iand, 1)) (pc' : Nat) (v : Int32) (hv : x &&& z = v) (H : W l Z R K Q h cc ss pc' ls (.int v :: st)) (hp : pc + 1 = pc' := by rfl) : W l Z R K Q h cc ss pc ls (.int z :: .int x :: st) := by
  subst hp
  subst hv
  exact fun T L X N e => Ends.step (fun t k => XS.iand X.here ok.1 rfl (hb ok.2.2.1 hd) rfl k) (H T L X N e)
theorem W.ior (ok : Ok Z K y code maxL ret) {x z : Int32} (hd : decode code pc = .ok (.ior, 1)) (pc' : Nat) (H : W l Z R K Q h cc ss pc' ls (.int (x ||| z) :: st)) (hp : pc + 1 = pc' := by rfl) : W l Z R K Q h cc ss pc ls (.int z :: .int x :: st) := by
  subst hp
  exact fun T L X N e => Ends.step (fun t k => XS.ior X.here ok.1 rfl (hb ok.2.2.1 hd) rfl k) (H T L X N e)
theorem W.iorV (ok : Ok Z K y code maxL ret) {x z : Int32} (hd : decode code pc = .ok (.ior, 1)) (pc' : Nat) (v : Int32) (hv : x ||| z = v) (H : W l Z R K Q h cc ss pc' ls (.int v :: st)) (hp : pc + 1 = pc' := by rfl) : W l Z R K Q h cc ss pc ls (.int z :: .int x :: st) := by
  subst hp
  subst hv
  exact fun T L X N e => Ends.step (fun t k => XS.ior X.here ok.1 rfl (hb ok.2.2.1 hd) rfl k) (H T L X N e)
theorem W.ixor (ok : Ok Z K y code maxL ret) {x z : Int32} (hd : decode code pc = .ok (.ixor, 1)) (pc' : Nat) (H : W l Z R K Q h cc ss pc' ls (.int (x ^^^ z) :: st)) (hp : pc + 1 = pc' := by rfl) : W l Z R K Q h cc ss pc ls (.int z :: .int x :: st) := by
  subst hp
  exact fun T L X N e => Ends.step (fun t k => XS.ixor X.here ok.1 rfl (hb ok.2.2.1 hd) rfl k) (H T L X N e)
theorem W.ixorV (ok : Ok Z K y code maxL ret) {x z : Int32} (hd : decode code pc = .ok (.ixor, 1)) (pc' : Nat) (v : Int32) (hv : x ^^^ z = v) (H : W l Z R K Q h cc ss pc' ls (.int v :: st)) (hp : pc + 1 = pc' := by rfl) : W l Z R K Q h cc ss pc ls (.int z :: .int x :: st) := by
  subst hp
  subst hv
  exact fun T L X N e => Ends.step (fun t k => XS.ixor X.here ok.1 rfl (hb ok.2.2.1 hd) rfl k) (H T L X N e)
theorem W.ishl (ok : Ok Z K y code maxL ret) {x z : Int32} (hd : decode code pc = .ok (.ishl, 1)) (pc' : Nat) (H : W l Z R K Q h cc ss pc' ls (.int (x <<< (z &&& 31)) :: st)) (hp : pc + 1 = pc' := by rfl) : W l Z R K Q h cc ss pc ls (.int z :: .int x :: st) := by
  subst hp
  exact fun T L X N e => Ends.step (fun t k => XS.ishl X.here ok.1 rfl (hb ok.2.2.1 hd) rfl k) (H T L X N e)
theorem W.ishlV (ok : Ok Z K y code maxL ret) {x z : Int32} (hd : decode code pc = .ok (.ishl, 1)) (pc' : Nat) (v : Int32) (hv : x <<< (z &&& 31) = v) (H : W l Z R K Q h cc ss pc' ls (.int v :: st)) (hp : pc + 1 = pc' := by rfl) : W l Z R K Q h cc ss pc ls (.int z :: .int x :: st) := by
  subst hp
  subst hv
  exact fun T L X N e => Ends.step (fun t k => XS.ishl X.here ok.1 rfl (hb ok.2.2.1 hd) rfl k) (H T L X N e)
theorem W.ishr (ok : Ok Z K y code maxL ret) {x z : Int32} (hd : decode code pc = .ok (.ishr, 1)) (pc' : Nat) (H : W l Z R K Q h cc ss pc' ls (.int (x >>> (z &&& 31)) :: st)) (hp : pc + 1 = pc' := by rfl) : W l Z R K Q h cc ss pc ls (.int z :: .int x :: st) := by
  subst hp
  exact fun T L X N e => Ends.step (fun t k => XS.ishr X.here ok.1 rfl (hb ok.2.2.1 hd) rfl k) (H T L X N e)
theorem W.ishrV (ok : Ok Z K y code maxL ret) {x z : Int32} (hd : decode code pc = .ok (.ishr, 1)) (pc' : Nat) (v : Int32) (hv : x >>> (z &&& 31) = v) (H : W l Z R K Q h cc ss pc' ls (.int v :: st)) (hp : pc + 1 = pc' := by rfl) : W l Z R K Q h cc ss pc ls (.int z :: .int x :: st) := by
  subst hp
  subst hv
  exact fun T L X N e => Ends.step (fun t k => XS.ishr X.here ok.1 rfl (hb ok.2.2.1 hd) rfl k) (H T L X N e)
theorem W.iushr (ok : Ok Z K y code maxL ret) {x z : Int32} (hd : decode code pc = .ok (.iushr, 1)) (pc' : Nat) (H : W l Z R K Q h cc ss pc' ls (.int ((x.toUInt32 >>> (z &&& 31).toUInt32).toInt32) :: st)) (hp : pc + 1 = pc' := by rfl) : W l Z R K Q h cc ss pc ls (.int z :: .int x :: st) := by
  subst hp
  exact fun T L X N e => Ends.step (fun t k => XS.iushr X.here ok.1 rfl (hb ok.2.2.1 hd) rfl k) (H T L X N e)
theorem W.iushrV (ok : Ok Z K y code maxL ret) {x z : Int32} (hd : decode code pc = .ok (.iushr, 1)) (pc' : Nat) (v : Int32) (hv : (x.toUInt32 >>> (z &&& 31).toUInt32).toInt32 = v) (H : W l Z R K Q h cc ss pc' ls (.int v :: st)) (hp : pc + 1 = pc' := by rfl) : W l Z R K Q h cc ss pc ls (.int z :: .int x :: st) := by
  subst hp
  subst hv
  exact fun T L X N e => Ends.step (fun t k => XS.iushr X.here ok.1 rfl (hb ok.2.2.1 hd) rfl k) (H T L X N e)
theorem W.ladd (ok : Ok Z K y code maxL ret) {x z : Int64} (hd : decode code pc = .ok (.ladd, 1)) (pc' : Nat) (H : W l Z R K Q h cc ss pc' ls (.long (x + z) :: st)) (hp : pc + 1 = pc' := by rfl) : W l Z R K Q h cc ss pc ls (.long z :: .long x :: st) := by
  subst hp
  exact fun T L X N e => Ends.step (fun t k => XS.ladd X.here ok.1 rfl (hb ok.2.2.1 hd) rfl k) (H T L X N e)
theorem W.lsub (ok : Ok Z K y code maxL ret) {x z : Int64} (hd : decode code pc = .ok (.lsub, 1)) (pc' : Nat) (H : W l Z R K Q h cc ss pc' ls (.long (x - z) :: st)) (hp : pc + 1 = pc' := by rfl) : W l Z R K Q h cc ss pc ls (.long z :: .long x :: st) := by
  subst hp
  exact fun T L X N e => Ends.step (fun t k => XS.lsub X.here ok.1 rfl (hb ok.2.2.1 hd) rfl k) (H T L X N e)
theorem W.lmul (ok : Ok Z K y code maxL ret) {x z : Int64} (hd : decode code pc = .ok (.lmul, 1)) (pc' : Nat) (H : W l Z R K Q h cc ss pc' ls (.long (x * z) :: st)) (hp : pc + 1 = pc' := by rfl) : W l Z R K Q h cc ss pc ls (.long z :: .long x :: st) := by
  subst hp
  exact fun T L X N e => Ends.step (fun t k => XS.lmul X.here ok.1 rfl (hb ok.2.2.1 hd) rfl k) (H T L X N e)
theorem W.land (ok : Ok Z K y code maxL ret) {x z : Int64} (hd : decode code pc = .ok (.land, 1)) (pc' : Nat) (H : W l Z R K Q h cc ss pc' ls (.long (x &&& z) :: st)) (hp : pc + 1 = pc' := by rfl) : W l Z R K Q h cc ss pc ls (.long z :: .long x :: st) := by
  subst hp
  exact fun T L X N e => Ends.step (fun t k => XS.land X.here ok.1 rfl (hb ok.2.2.1 hd) rfl k) (H T L X N e)
theorem W.lor (ok : Ok Z K y code maxL ret) {x z : Int64} (hd : decode code pc = .ok (.lor, 1)) (pc' : Nat) (H : W l Z R K Q h cc ss pc' ls (.long (x ||| z) :: st)) (hp : pc + 1 = pc' := by rfl) : W l Z R K Q h cc ss pc ls (.long z :: .long x :: st) := by
  subst hp
  exact fun T L X N e => Ends.step (fun t k => XS.lor X.here ok.1 rfl (hb ok.2.2.1 hd) rfl k) (H T L X N e)
theorem W.lxor (ok : Ok Z K y code maxL ret) {x z : Int64} (hd : decode code pc = .ok (.lxor, 1)) (pc' : Nat) (H : W l Z R K Q h cc ss pc' ls (.long (x ^^^ z) :: st)) (hp : pc + 1 = pc' := by rfl) : W l Z R K Q h cc ss pc ls (.long z :: .long x :: st) := by
  subst hp
  exact fun T L X N e => Ends.step (fun t k => XS.lxor X.here ok.1 rfl (hb ok.2.2.1 hd) rfl k) (H T L X N e)
theorem W.lshl (ok : Ok Z K y code maxL ret) {x : Int64} {z : Int32} (hd : decode code pc = .ok (.lshl, 1)) (pc' : Nat) (H : W l Z R K Q h cc ss pc' ls (.long (x <<< (z &&& 0x3f).toInt64) :: st)) (hp : pc + 1 = pc' := by rfl) : W l Z R K Q h cc ss pc ls (.int z :: .long x :: st) := by
  subst hp
  exact fun T L X N e => Ends.step (fun t k => XS.lshl X.here ok.1 rfl (hb ok.2.2.1 hd) rfl k) (H T L X N e)
theorem W.lshr (ok : Ok Z K y code maxL ret) {x : Int64} {z : Int32} (hd : decode code pc = .ok (.lshr, 1)) (pc' : Nat) (H : W l Z R K Q h cc ss pc' ls (.long (x >>> (z &&& 0x3f).toInt64) :: st)) (hp : pc + 1 = pc' := by rfl) : W l Z R K Q h cc ss pc ls (.int z :: .long x :: st) := by
  subst hp
  exact fun T L X N e => Ends.step (fun t k => XS.lshr X.here ok.1 rfl (hb ok.2.2.1 hd) rfl k) (H T L X N e)
theorem W.lushr (ok : Ok Z K y code maxL ret) {x : Int64} {z : Int32} (hd : decode code pc = .ok (.lushr, 1)) (pc' : Nat) (H : W l Z R K Q h cc ss pc' ls (.long ((x.toUInt64 >>> (z &&& 0x3f).toInt64.toUInt64).toInt64) :: st)) (hp : pc + 1 = pc' := by rfl) : W l Z R K Q h cc ss pc ls (.int z :: .long x :: st) := by
  subst hp
  exact fun T L X N e => Ends.step (fun t k => XS.lushr X.here ok.1 rfl (hb ok.2.2.1 hd) rfl k) (H T L X N e)
theorem W.idiv (ok : Ok Z K y code maxL ret) {x z : Int32} (hd : decode code pc = .ok (.idiv, 1)) (pc' : Nat) (hz : z ≠ 0) (H : W l Z R K Q h cc ss pc' ls (.int (x / z) :: st)) (hp : pc + 1 = pc' := by rfl) : W l Z R K Q h cc ss pc ls (.int z :: .int x :: st) := by
  subst hp
  exact fun T L X N e => Ends.step (fun t k => XS.idiv X.here ok.1 rfl (hb ok.2.2.1 hd) rfl hz k) (H T L X N e)
theorem W.irem (ok : Ok Z K y code maxL ret) {x z : Int32} (hd : decode code pc = .ok (.irem, 1)) (pc' : Nat) (hz : z ≠ 0) (H : W l Z R K Q h cc ss pc' ls (.int (x % z) :: st)) (hp : pc + 1 = pc' := by rfl) : W l Z R K Q h cc ss pc ls (.int z :: .int x :: st) := by
  subst hp
  exact fun T L X N e => Ends.step (fun t k => iremM X ok.1 rfl (hb ok.2.2.1 hd) rfl hz k) (H T L X N e)
theorem W.ineg (ok : Ok Z K y code maxL ret) {x : Int32} (hd : decode code pc = .ok (.ineg, 1)) (pc' : Nat) (H : W l Z R K Q h cc ss pc' ls (.int (-x) :: st)) (hp : pc + 1 = pc' := by rfl) : W l Z R K Q h cc ss pc ls (.int x :: st) := by
  subst hp
  exact fun T L X N e => Ends.step (fun t k => XS.ineg X.here ok.1 rfl (hb ok.2.2.1 hd) rfl k) (H T L X N e)
theorem W.inegV (ok : Ok Z K y code maxL ret) {x : Int32} (hd : decode code pc = .ok (.ineg, 1)) (pc' : Nat) (v : Int32) (hv : -x = v) (H : W l Z R K Q h cc ss pc' ls (.int v :: st)) (hp : pc + 1 = pc' := by rfl) : W l Z R K Q h cc ss pc ls (.int x :: st) := by
  subst hp
  subst hv
  exact fun T L X N e => Ends.step (fun t k => XS.ineg X.here ok.1 rfl (hb ok.2.2.1 hd) rfl k) (H T L X N e)
theorem W.i2b (ok : Ok Z K y code maxL ret) {x : Int32} (hd : decode code pc = .ok (.i2b, 1)) (pc' : Nat) (H : W l Z R K Q h cc ss pc' ls (.int (x.toInt8.toInt32) :: st)) (hp : pc + 1 = pc' := by rfl) : W l Z R K Q h cc ss pc ls (.int x :: st) := by
  subst hp
  exact fun T L X N e => Ends.step (fun t k => XS.i2b X.here ok.1 rfl (hb ok.2.2.1 hd) rfl k) (H T L X N e)
theorem W.i2bV (ok : Ok Z K y code maxL ret) {x : Int32} (hd : decode code pc = .ok (.i2b, 1)) (pc' : Nat) (v : Int32) (hv : x.toInt8.toInt32 = v) (H : W l Z R K Q h cc ss pc' ls (.int v :: st)) (hp : pc + 1 = pc' := by rfl) : W l Z R K Q h cc ss pc ls (.int x :: st) := by
  subst hp
  subst hv
  exact fun T L X N e => Ends.step (fun t k => XS.i2b X.here ok.1 rfl (hb ok.2.2.1 hd) rfl k) (H T L X N e)
theorem W.i2c (ok : Ok Z K y code maxL ret) {x : Int32} (hd : decode code pc = .ok (.i2c, 1)) (pc' : Nat) (H : W l Z R K Q h cc ss pc' ls (.int (x.toUInt32.toUInt16.toUInt32.toInt32) :: st)) (hp : pc + 1 = pc' := by rfl) : W l Z R K Q h cc ss pc ls (.int x :: st) := by
  subst hp
  exact fun T L X N e => Ends.step (fun t k => XS.i2c X.here ok.1 rfl (hb ok.2.2.1 hd) rfl k) (H T L X N e)
theorem W.i2cV (ok : Ok Z K y code maxL ret) {x : Int32} (hd : decode code pc = .ok (.i2c, 1)) (pc' : Nat) (v : Int32) (hv : x.toUInt32.toUInt16.toUInt32.toInt32 = v) (H : W l Z R K Q h cc ss pc' ls (.int v :: st)) (hp : pc + 1 = pc' := by rfl) : W l Z R K Q h cc ss pc ls (.int x :: st) := by
  subst hp
  subst hv
  exact fun T L X N e => Ends.step (fun t k => XS.i2c X.here ok.1 rfl (hb ok.2.2.1 hd) rfl k) (H T L X N e)
theorem W.i2s (ok : Ok Z K y code maxL ret) {x : Int32} (hd : decode code pc = .ok (.i2s, 1)) (pc' : Nat) (H : W l Z R K Q h cc ss pc' ls (.int (x.toInt16.toInt32) :: st)) (hp : pc + 1 = pc' := by rfl) : W l Z R K Q h cc ss pc ls (.int x :: st) := by
  subst hp
  exact fun T L X N e => Ends.step (fun t k => XS.i2s X.here ok.1 rfl (hb ok.2.2.1 hd) rfl k) (H T L X N e)
theorem W.i2sV (ok : Ok Z K y code maxL ret) {x : Int32} (hd : decode code pc = .ok (.i2s, 1)) (pc' : Nat) (v : Int32) (hv : x.toInt16.toInt32 = v) (H : W l Z R K Q h cc ss pc' ls (.int v :: st)) (hp : pc + 1 = pc' := by rfl) : W l Z R K Q h cc ss pc ls (.int x :: st) := by
  subst hp
  subst hv
  exact fun T L X N e => Ends.step (fun t k => XS.i2s X.here ok.1 rfl (hb ok.2.2.1 hd) rfl k) (H T L X N e)
theorem W.i2l (ok : Ok Z K y code maxL ret) {x : Int32} (hd : decode code pc = .ok (.i2l, 1)) (pc' : Nat) (H : W l Z R K Q h cc ss pc' ls (.long (x.toInt64) :: st)) (hp : pc + 1 = pc' := by rfl) : W l Z R K Q h cc ss pc ls (.int x :: st) := by
  subst hp
  exact fun T L X N e => Ends.step (fun t k => XS.i2l X.here ok.1 rfl (hb ok.2.2.1 hd) rfl k) (H T L X N e)
theorem W.l2i (ok : Ok Z K y code maxL ret) {x : Int64} (hd : decode code pc = .ok (.l2i, 1)) (pc' : Nat) (H : W l Z R K Q h cc ss pc' ls (.int (x.toInt32) :: st)) (hp : pc + 1 = pc' := by rfl) : W l Z R K Q h cc ss pc ls (.long x :: st) := by
  subst hp
  exact fun T L X N e => Ends.step (fun t k => XS.l2i X.here ok.1 rfl (hb ok.2.2.1 hd) rfl k) (H T L X N e)
theorem W.lneg (ok : Ok Z K y code maxL ret) {x : Int64} (hd : decode code pc = .ok (.lneg, 1)) (pc' : Nat) (H : W l Z R K Q h cc ss pc' ls (.long (-x) :: st)) (hp : pc + 1 = pc' := by rfl) : W l Z R K Q h cc ss pc ls (.long x :: st) := by
  subst hp
  exact fun T L X N e => Ends.step (fun t k => XS.lneg X.here ok.1 rfl (hb ok.2.2.1 hd) rfl k) (H T L X N e)
theorem W.iinc (ok : Ok Z K y code maxL ret) {k : Nat} {cst : Int} {x : Int32} (hd : decode code pc = .ok (.iinc k cst, 3)) (pc' : Nat) (v : Int32) (ls' : Array Slot) (hl : ls[k]? = some (.val (.int x))) (hv : x + Int32.ofInt cst = v) (hl' : storeLocals ls k (.int v) = some ls') (H : W l Z R K Q h cc ss pc' ls' (st)) (hp : pc + 3 = pc' := by rfl) : W l Z R K Q h cc ss pc ls (st) := by
  subst hp
  subst hv
  exact fun T L X N e => Ends.step (fun t k => XS.iinc X.here ok.1 rfl (hb ok.2.2.1 hd) hl hl' k) (H T L X N e)
theorem W.dup (ok : Ok Z K y code maxL ret) {v : Value} (hd : decode code pc = .ok (.dup, 1)) (pc' : Nat) (hv : v.category = 1) (H : W l Z R K Q h cc ss pc' ls (v :: v :: st)) (hp : pc + 1 = pc' := by rfl) : W l Z R K Q h cc ss pc ls (v :: st) := by
  subst hp
  exact fun T L X N e => Ends.step (fun t k => XS.dup X.here ok.1 rfl (hb ok.2.2.1 hd) rfl hv k) (H T L X N e)
theorem W.dupX1 (ok : Ok Z K y code maxL ret) {v w : Value} (hd : decode code pc = .ok (.dup_x1, 1)) (pc' : Nat) (hv : v.category = 1) (hw : w.category = 1) (H : W l Z R K Q h cc ss pc' ls (v :: w :: v :: st)) (hp : pc + 1 = pc' := by rfl) : W l Z R K Q h cc ss pc ls (v :: w :: st) := by
  subst hp
  exact fun T L X N e => Ends.step (fun t k => XS.dupX1 X.here ok.1 rfl (hb ok.2.2.1 hd) rfl hv hw k) (H T L X N e)
theorem W.pop (ok : Ok Z K y code maxL ret) {v : Value} (hd : decode code pc = .ok (.pop, 1)) (pc' : Nat) (hv : v.category = 1) (H : W l Z R K Q h cc ss pc' ls (st)) (hp : pc + 1 = pc' := by rfl) : W l Z R K Q h cc ss pc ls (v :: st) := by
  subst hp
  exact fun T L X N e => Ends.step (fun t k => XS.pop X.here ok.1 rfl (hb ok.2.2.1 hd) rfl hv k) (H T L X N e)
theorem W.goto (ok : Ok Z K y code maxL ret) {o : Int} (hd : decode code pc = .ok (.goto o, 3)) (pc' : Nat) (H : W l Z R K Q h cc ss pc' ls st) (ho : 0 ≤ (pc : Int) + o := by decide) (hp : ((pc : Int) + o).toNat = pc' := by decide) : W l Z R K Q h cc ss pc ls st :=
  fun T L X N e => Ends.step (fun t k => XS.goto X.here ok.1 rfl (pc0 := pc) (pc' := pc') rfl (hb ok.2.2.1 hd) ho hp k) (H T L X N e)
theorem W.icmpT (ok : Ok Z K y code maxL ret) {cd : ClassFile.Cond} {x z : Int32} {o : Int} (hd : decode code pc = .ok (.if_icmp cd o, 3)) (pc' : Nat) (hc : cdT cd x z) (H : W l Z R K Q h cc ss pc' ls st) (ho : 0 ≤ (pc : Int) + o := by decide) (hp : ((pc : Int) + o).toNat = pc' := by decide) : W l Z R K Q h cc ss pc ls (.int z :: .int x :: st) :=
  fun T L X N e => Ends.step (fun t k => XS.icmpYes X.here ok.1 rfl (pc0 := pc) (pc' := pc') rfl (hb ok.2.2.1 hd) rfl (cd_t hc) ho hp k) (H T L X N e)
theorem W.icmpF (ok : Ok Z K y code maxL ret) {cd : ClassFile.Cond} {x z : Int32} {o : Int} (hd : decode code pc = .ok (.if_icmp cd o, 3)) (pc' : Nat) (hc : cdF cd x z) (H : W l Z R K Q h cc ss pc' ls st) (hp : pc + 3 = pc' := by rfl) : W l Z R K Q h cc ss pc ls (.int z :: .int x :: st) := by
  subst hp
  exact fun T L X N e => Ends.step (fun t k => XS.icmpNo X.here ok.1 rfl (hb ok.2.2.1 hd) rfl (cd_f hc) k) (H T L X N e)
theorem W.icmp (ok : Ok Z K y code maxL ret) {cd : ClassFile.Cond} {x z : Int32} {o : Int} (hd : decode code pc = .ok (.if_icmp cd o, 3)) (pcT pcF : Nat) (HT : cdT cd x z → W l Z R K Q h cc ss pcT ls st) (HF : cdF cd x z → W l Z R K Q h cc ss pcF ls st) (ho : 0 ≤ (pc : Int) + o := by decide) (hp : ((pc : Int) + o).toNat = pcT := by decide) (hq : pc + 3 = pcF := by rfl) : W l Z R K Q h cc ss pc ls (.int z :: .int x :: st) :=
  (cd_or cd x z).elim (fun hc => W.icmpT ok hd pcT hc (HT hc) ho hp) (fun hc => W.icmpF ok hd pcF hc (HF hc) hq)
theorem W.ifT (ok : Ok Z K y code maxL ret) {cd : ClassFile.Cond} {x : Int32} {o : Int} (hd : decode code pc = .ok (.ifCond cd o, 3)) (pc' : Nat) (hc : cdT cd x 0) (H : W l Z R K Q h cc ss pc' ls st) (ho : 0 ≤ (pc : Int) + o := by decide) (hp : ((pc : Int) + o).toNat = pc' := by decide) : W l Z R K Q h cc ss pc ls (.int x :: st) :=
  fun T L X N e => Ends.step (fun t k => XS.ifYes X.here ok.1 rfl (pc0 := pc) (pc' := pc') rfl (hb ok.2.2.1 hd) rfl ((if0 _ _).trans (cd_t hc)) ho hp k) (H T L X N e)
theorem W.ifF (ok : Ok Z K y code maxL ret) {cd : ClassFile.Cond} {x : Int32} {o : Int} (hd : decode code pc = .ok (.ifCond cd o, 3)) (pc' : Nat) (hc : cdF cd x 0) (H : W l Z R K Q h cc ss pc' ls st) (hp : pc + 3 = pc' := by rfl) : W l Z R K Q h cc ss pc ls (.int x :: st) := by
  subst hp
  exact fun T L X N e => Ends.step (fun t k => XS.ifNo X.here ok.1 rfl (hb ok.2.2.1 hd) rfl ((if0 _ _).trans (cd_f hc)) k) (H T L X N e)
theorem W.iff (ok : Ok Z K y code maxL ret) {cd : ClassFile.Cond} {x : Int32} {o : Int} (hd : decode code pc = .ok (.ifCond cd o, 3)) (pcT pcF : Nat) (HT : cdT cd x 0 → W l Z R K Q h cc ss pcT ls st) (HF : cdF cd x 0 → W l Z R K Q h cc ss pcF ls st) (ho : 0 ≤ (pc : Int) + o := by decide) (hp : ((pc : Int) + o).toNat = pcT := by decide) (hq : pc + 3 = pcF := by rfl) : W l Z R K Q h cc ss pc ls (.int x :: st) :=
  (cd_or cd x 0).elim (fun hc => W.ifT ok hd pcT hc (HT hc) ho hp) (fun hc => W.ifF ok hd pcF hc (HF hc) hq)
theorem W.ifnullT (ok : Ok Z K y code maxL ret) {o : Int} (hd : decode code pc = .ok (.ifnull o, 3)) (pc' : Nat) (H : W l Z R K Q h cc ss pc' ls st) (ho : 0 ≤ (pc : Int) + o := by decide) (hp : ((pc : Int) + o).toNat = pc' := by decide) : W l Z R K Q h cc ss pc ls (.null :: st) :=
  fun T L X N e => Ends.step (fun t k => XS.ifnullYes X.here ok.1 rfl (pc0 := pc) (pc' := pc') rfl (hb ok.2.2.1 hd) rfl ho hp k) (H T L X N e)
theorem W.ifnullF (ok : Ok Z K y code maxL ret) {o : Int} {a : Addr} (hd : decode code pc = .ok (.ifnull o, 3)) (pc' : Nat) (H : W l Z R K Q h cc ss pc' ls st) (hp : pc + 3 = pc' := by rfl) : W l Z R K Q h cc ss pc ls (.ref a :: st) := by
  subst hp
  exact fun T L X N e => Ends.step (fun t k => XS.ifnullNo X.here ok.1 rfl (hb ok.2.2.1 hd) rfl k) (H T L X N e)
theorem W.ifnonnullT (ok : Ok Z K y code maxL ret) {o : Int} {a : Addr} (hd : decode code pc = .ok (.ifnonnull o, 3)) (pc' : Nat) (H : W l Z R K Q h cc ss pc' ls st) (ho : 0 ≤ (pc : Int) + o := by decide) (hp : ((pc : Int) + o).toNat = pc' := by decide) : W l Z R K Q h cc ss pc ls (.ref a :: st) :=
  fun T L X N e => Ends.step (fun t k => XS.ifnonnullYes X.here ok.1 rfl (pc0 := pc) (pc' := pc') rfl (hb ok.2.2.1 hd) rfl ho hp k) (H T L X N e)
theorem W.ifnonnullF (ok : Ok Z K y code maxL ret) {o : Int} (hd : decode code pc = .ok (.ifnonnull o, 3)) (pc' : Nat) (H : W l Z R K Q h cc ss pc' ls st) (hp : pc + 3 = pc' := by rfl) : W l Z R K Q h cc ss pc ls (.null :: st) := by
  subst hp
  exact fun T L X N e => Ends.step (fun t k => XS.ifnonnullNo X.here ok.1 rfl (hb ok.2.2.1 hd) rfl k) (H T L X N e)
theorem W.acmp (ok : Ok Z K y code maxL ret) {cd : ACond} {v w : Value} {o : Int} (hd : decode code pc = .ok (.if_acmp cd o, 3)) (pc' : Nat) (same : Bool) (hq : decide (v = w) = same) (H : W l Z R K Q h cc ss pc' ls st) (hv : v.isRef = true := by rfl) (hw : w.isRef = true := by rfl) (ho : 0 ≤ (pc : Int) + o := by decide) (hp : pc' = if acV cd same = true then ((pc : Int) + o).toNat else pc + 3 := by decide) : W l Z R K Q h cc ss pc ls (w :: v :: st) :=
  fun T L X N e => Ends.step (fun t k => Jvm.RoadKit.acmp (g := mkF K.m pc ls (w :: v :: st)) X ok.1 rfl hv hw (pc0 := pc) (pc' := pc') rfl (hb ok.2.2.1 hd) rfl hq ho hp k) (H T L X N e)
theorem tb_of {tb : ∀ d ∈ ts, d.before a0 Z = true} {i : Nat} {d : Jvm.Cond} (w : ts[i]? = some d) : d.before a0 Z = true := tb d (List.mem_of_getElem? w)
theorem W.ldc (ok : Ok Z K y code maxL ret) (tb : ∀ d ∈ ts, d.before a0 Z = true) (i : Nat) {idx : Nat} {v : Int32} (w : ts[i]? = some (.constant y.cls idx v)) (hd : decode code pc = .ok (.ldc idx, 2)) (pc' : Nat) (H : W l Z R K Q h cc ss pc' ls (.int v :: st)) (hp : pc + 2 = pc' := by rfl) : W l Z R K Q h cc ss pc ls st := by
  subst hp
  exact fun T L X N e => Ends.step (fun t k => X.ldcInt ok.1 ok.2.2.2.2.1 (mvT ok.2.1 (tb _ (List.mem_of_getElem? w))) (g := mkF K.m pc ls st) rfl (hb ok.2.2.1 hd) _ k) (H T L X N e)
theorem W.ldcw (ok : Ok Z K y code maxL ret) (tb : ∀ d ∈ ts, d.before a0 Z = true) (i : Nat) {idx : Nat} {v : Int32} (w : ts[i]? = some (.constant y.cls idx v)) (hd : decode code pc = .ok (.ldc_w idx, 3)) (pc' : Nat) (H : W l Z R K Q h cc ss pc' ls (.int v :: st)) (hp : pc + 3 = pc' := by rfl) : W l Z R K Q h cc ss pc ls st := by
  subst hp
  exact fun T L X N e => Ends.step (fun t k => X.ldcwInt ok.1 ok.2.2.2.2.1 (mvT ok.2.1 (tb _ (List.mem_of_getElem? w))) (g := mkF K.m pc ls st) rfl (hb ok.2.2.1 hd) _ k) (H T L X N e)

/-! returns -/
theorem W.retA {t : FieldType} (ok : Ok Z K y code maxL (some t)) {w : Value} {i : Instr} (hd : decode code pc = .ok (i, 1)) (hn : narrow t w = w)
    (hi : (i = .ireturn ∧ (t = .int ∨ t = .boolean ∨ t = .byte ∨ t = .char ∨ t = .short) ∧ ∃ z, w = .int z) ∨ (i = .lreturn ∧ t = .long ∧ ∃ z, w = .long z) ∨ (i = .dreturn ∧ t = .double ∧ ∃ z, w = .double z) ∨ (i = .freturn ∧ t = .float ∧ ∃ z, w = .float z) ∨ (i = .areturn ∧ t.isReference = true ∧ w.isRef = true))
    (HQ : Q (some w) h) (hc : cc ≤ R.cells) (hs : ss ≤ R.slots) : W l Z R K Q h cc ss pc ls (w :: st) := by
  intro T L X N e
  obtain ⟨fs, hr, hrun, hended, hW, hsame⟩ := X.leave (v := some w) (fun q => by rw [ok.2.2.2.2.2.1] at q; cases q) ok.2.2.2.2.2.2.2.1
  exact ⟨_, _, retOut X ok.1 ok.2.2.2.2.2.1 hn hi (hb ok.2.2.1 hd) hr, hrun, hended, _, L, rfl, ⟨by show Q (some w) T.heap; rw [e]; exact HQ, N⟩, ok.2.2.2.2.2.2.2.2 _ _ _ _ _ ⟨⟨_, rfl⟩, hW, hsame.mono hc hs⟩⟩
theorem W.iret {t : FieldType} (ok : Ok Z K y code maxL (some t)) {v : Int32} (hd : decode code pc = .ok (.ireturn, 1)) (hn : narrow t (.int v) = .int v) (HQ : Q (some (.int v)) h)
    (ht : t = .int ∨ t = .boolean ∨ t = .byte ∨ t = .char ∨ t = .short := by simp) (hc : cc ≤ R.cells := by decide) (hs : ss ≤ R.slots := by decide) : W l Z R K Q h cc ss pc ls (.int v :: st) :=
  W.retA ok hd hn (Or.inl ⟨rfl, ht, _, rfl⟩) HQ hc hs
theorem W.aret {t : FieldType} (ok : Ok Z K y code maxL (some t)) {w : Value} (hd : decode code pc = .ok (.areturn, 1)) (HQ : Q (some w) h) (hn : narrow t w = w := by rfl)
    (ht : t.isReference = true := by rfl) (hw : w.isRef = true := by rfl) (hc : cc ≤ R.cells := by decide) (hs : ss ≤ R.slots := by decide) : W l Z R K Q h cc ss pc ls (w :: st) :=
  W.retA ok hd hn (Or.inr (Or.inr (Or.inr (Or.inr ⟨rfl, ht, hw⟩)))) HQ hc hs
theorem W.vret (ok : Ok Z K y code maxL none) (hd : decode code pc = .ok (.return_, 1)) (HQ : Q none h) (hc : cc ≤ R.cells := by decide) (hs : ss ≤ R.slots := by decide) : W l Z R K Q h cc ss pc ls [] := by
  intro T L X N e
  obtain ⟨fs, hr, hrun, hended, hW, hsame⟩ := X.leave (v := none) (fun q => rfl) ok.2.2.2.2.2.2.2.1
  exact ⟨_, _, X.returnOut ok.1 ok.2.2.2.2.2.1 (hb ok.2.2.1 hd) hr, hrun, hended, _, L, rfl, ⟨by show Q none T.heap; rw [e]; exact HQ, N⟩, ok.2.2.2.2.2.2.2.2 _ _ _ _ _ ⟨⟨_, rfl⟩, hW, hsame.mono hc hs⟩⟩
/-! calls -/
abbrev Tb (Z : State) (a0 : Array Value) (ts : List Jvm.Cond) : Prop := ∀ d ∈ ts, d.before a0 Z = true
theorem W.callS (ok : Ok Z K y code maxL ret) (tb : Tb Z a0 ts) {idx : Nat} {z : MethodName} {code' : ByteArray} {maxL' : Nat} {ret' : Option FieldType} {rm : Room} {Q' : Option Value → Heap → Prop} {ps : List FieldType} {rt : Option FieldType} {argsL rest : List Value}
    (i1 i2 i3 i4 : Nat) (w1 : ts[i1]? = some (.methodLink y.cls idx z)) (w2 : ts[i2]? = some (.static z)) (w3 : ts[i3]? = some (.initialized z.cls)) (w4 : ts[i4]? = some (.code z code' maxL' ret'))
    (hd : decode code pc = .ok (.invokestatic idx, 3)) (hpd : parseMethodDescriptor z.desc = some ⟨ps, rt⟩) (con : Con l Z z code' maxL' ret' rm argsL.toArray h Q') (wgt cc' ss' pc' : Nat)
    (H : ∀ v h', Q' v h' → W l Z R K Q h' cc' ss' pc' ls (v.toList ++ rest))
    (hm : z.cls ≠ "java/lang/invoke/MethodHandle" ∧ z.cls ≠ "java/lang/invoke/VarHandle" := by decide) (hlen : argsL.length = ps.length := by rfl) (hst : st = argsL.reverse ++ rest := by rfl) (hW : (rest.map fun v => v.category).sum ≤ wgt := by exact Nat.le_refl _)
    (hf : rm.frames + 1 ≤ R.frames := by decide) (hl : wgt + (maxL' + 11) + rm.locals ≤ R.locals := by decide) (hc : cc' ≤ R.cells := by decide) (hs : ss' ≤ R.slots := by decide) (hc' : cc + rm.cells = cc' := by rfl) (hs' : ss + rm.slots = ss' := by rfl) (hsz : ls.size = maxL := by rfl) (hp : pc + 3 = pc' := by rfl) :
    W l Z R K Q h cc ss pc ls st := by
  subst hst hc' hs' hp
  intro T L X N e
  obtain ⟨v, _, ⟨T', L', k', n'⟩, -, X', ⟨Lc, hQ, l1, l2, l3⟩, stp⟩ := Jvm.LawKit.callS X ok.1 (y := z) ok.2.2.2.2.1 (mvT ok.2.1 (tb _ (List.mem_of_getElem? w1))) (mvT ok.2.1 (tb _ (List.mem_of_getElem? w2))) (mvT ok.2.1 (tb _ (List.mem_of_getElem? w3))) (mvT ok.2.1 (tb _ (List.mem_of_getElem? w4))) hm
    (backOf (W := wgt) (Q := fun v h L => Q' v h ∧ Fr Z.heap.size L) (con []) ok.2.1 (tb _ (List.mem_of_getElem? w4)) (tb _ (List.mem_of_getElem? w3)) hf hl) (g := mkF K.m pc ls (argsL.reverse ++ rest)) rfl (hsz.trans ok.2.2.2.1.symm) (argsL := argsL) (rest := rest) (lenOf hpd hlen) rfl (by simpa using hW) (hb ok.2.2.1 hd) (fun _ _ => ⟨rfl, e, hc, hs⟩)
  dsimp only [Pt.U, Pt.locs, Pt.cells, Pt.slots] at X' l1 l2 l3 stp hQ
  subst l1 l2 l3
  exact Ends.step stp (H v T'.heap hQ.1 T' _ X' (N.app hQ.2) rfl)
theorem W.callI (ok : Ok Z K y code maxL ret) (tb : Tb Z a0 ts) {idx : Nat} {z : MethodName} {code' : ByteArray} {maxL' : Nat} {rm : Room} {Q' : Option Value → Heap → Prop} {ps : List FieldType} {rt : Option FieldType} {a : Addr} {argsL rest : List Value}
    (i1 i2 i3 i4 : Nat) (w1 : ts[i1]? = some (.methodLink y.cls idx z)) (w2 : ts[i2]? = some (.instanceMethod z)) (w3 : ts[i3]? = some (.initialized z.cls)) (w4 : ts[i4]? = some (.code z code' maxL' none))
    (hd : decode code pc = .ok (.invokespecial idx, 3)) (hpd : parseMethodDescriptor z.desc = some ⟨ps, rt⟩) (con : Con l Z z code' maxL' none rm (.ref a :: argsL).toArray h Q') (wgt cc' ss' pc' : Nat)
    (H : ∀ v h', Q' v h' → W l Z R K Q h' cc' ss' pc' ls (v.toList ++ rest))
    (hnm : z.name = "<init>" := by rfl) (hm : z.cls ≠ "java/lang/invoke/MethodHandle" ∧ z.cls ≠ "java/lang/invoke/VarHandle" := by decide) (hlen : argsL.length = ps.length := by rfl) (hst : st = argsL.reverse ++ .ref a :: rest := by rfl) (hW : (rest.map fun v => v.category).sum ≤ wgt := by exact Nat.le_refl _)
    (hf : rm.frames + 1 ≤ R.frames := by decide) (hl : wgt + (maxL' + 11) + rm.locals ≤ R.locals := by decide) (hc : cc' ≤ R.cells := by decide) (hs : ss' ≤ R.slots := by decide) (hc' : cc + rm.cells = cc' := by rfl) (hs' : ss + rm.slots = ss' := by rfl) (hsz : ls.size = maxL := by rfl) (hp : pc + 3 = pc' := by rfl) :
    W l Z R K Q h cc ss pc ls st := by
  subst hst hc' hs' hp
  intro T L X N e
  obtain ⟨v, _, ⟨T', L', k', n'⟩, -, X', ⟨Lc, hQ, l1, l2, l3⟩, stp⟩ := X.specialBack ok.1 (y := z) hnm ok.2.2.2.2.1 (mvT ok.2.1 (tb _ (List.mem_of_getElem? w1))) (mvT ok.2.1 (tb _ (List.mem_of_getElem? w2))) (mvT ok.2.1 (tb _ (List.mem_of_getElem? w4))) hm
    (backOf (W := wgt) (Q := fun v h L => Q' v h ∧ Fr Z.heap.size L) (con []) ok.2.1 (tb _ (List.mem_of_getElem? w4)) (tb _ (List.mem_of_getElem? w3)) hf hl) (g := mkF K.m pc ls (argsL.reverse ++ .ref a :: rest)) rfl (hsz.trans ok.2.2.2.1.symm) (Steps.refl _) (a := a) (argsL := argsL) (rest := rest) (lenOf hpd hlen) rfl (by simpa using hW) (hb ok.2.2.1 hd) (fun _ _ => ⟨rfl, e, hc, hs⟩)
  dsimp only [Pt.U, Pt.locs, Pt.cells, Pt.slots] at X' l1 l2 l3 stp hQ
  subst l1 l2 l3
  exact Ends.step (fun t k => stp.trans k) (H v T'.heap hQ.1 T' _ X' (N.app hQ.2) rfl)
theorem W.initO (ok : Ok Z K y code maxL ret) (tb : Tb Z a0 ts) {idx : Nat} {a : Addr} (i1 i2 i3 : Nat) (w1 : ts[i1]? = some (.methodLink y.cls idx Lib.objectInit)) (w2 : ts[i2]? = some (.instanceMethod Lib.objectInit)) (w3 : ts[i3]? = some (.code Lib.objectInit ⟨#[0xb1]⟩ 1 none))
    (hd : decode code pc = .ok (.invokespecial idx, 3)) (wgt pc' : Nat) (H : W l Z R K Q h cc ss pc' ls st) (hW : (st.map fun v => v.category).sum ≤ wgt := by exact Nat.le_refl _) (hf : 1 ≤ R.frames := by decide) (hl : wgt + 12 ≤ R.locals := by decide) (hsz : ls.size = maxL := by rfl) (hp : pc + 3 = pc' := by rfl) :
    W l Z R K Q h cc ss pc ls (.ref a :: st) := by
  subst hp
  intro T L X N e
  obtain ⟨T', X', e', stp⟩ := Jvm.RoadKit.initO X ok.1 ok.2.1 ok.2.2.2.2.1 (tb _ (List.mem_of_getElem? w1)) (tb _ (List.mem_of_getElem? w2)) (tb _ (List.mem_of_getElem? w3)) e (g := mkF K.m pc ls (.ref a :: st)) rfl (hsz.trans ok.2.2.2.1.symm) rfl (hb ok.2.2.1 hd) hf (W := wgt) (by simpa using hW) hl
  exact Ends.step stp (H T' _ X' N e')
theorem W.callV (ok : Ok Z K y code maxL ret) (tb : Tb Z a0 ts) {idx : Nat} {z z' : MethodName} {C : String} {code' : ByteArray} {maxL' : Nat} {ret' : Option FieldType} {rm : Room} {Q' : Option Value → Heap → Prop} {ps : List FieldType} {rt : Option FieldType} {a : Addr} {argsL rest : List Value}
    (i1 i2 i3 i4 i5 i6 : Nat) (w1 : ts[i1]? = some (.methodLink y.cls idx z)) (w2 : ts[i2]? = some (.declares z)) (w3 : ts[i3]? = some (.selects C z z')) (w4 : ts[i4]? = some (.instanceMethod z')) (w5 : ts[i5]? = some (.code z' code' maxL' ret')) (w6 : ts[i6]? = some (.initialized z'.cls))
    (nf : NotFace K.s z) (E : Exa Z h a C)
    (hd : decode code pc = .ok (.invokevirtual idx, 3)) (hpd : parseMethodDescriptor z.desc = some ⟨ps, rt⟩) (con : Con l Z z' code' maxL' ret' rm (.ref a :: argsL).toArray h Q') (wgt cc' ss' pc' : Nat)
    (H : ∀ v h', Q' v h' → W l Z R K Q h' cc' ss' pc' ls (v.toList ++ rest))
    (hm : z.cls ≠ "java/lang/invoke/MethodHandle" ∧ z.cls ≠ "java/lang/invoke/VarHandle" := by decide) (hlen : argsL.length = ps.length := by rfl) (hst : st = argsL.reverse ++ .ref a :: rest := by rfl) (hW : (rest.map fun v => v.category).sum ≤ wgt := by exact Nat.le_refl _)
    (hf : rm.frames + 1 ≤ R.frames := by decide) (hl : wgt + (maxL' + 11) + rm.locals ≤ R.locals := by decide) (hc : cc' ≤ R.cells := by decide) (hs : ss' ≤ R.slots := by decide) (hc' : cc + rm.cells = cc' := by rfl) (hs' : ss + rm.slots = ss' := by rfl) (hsz : ls.size = maxL := by rfl) (hp : pc + 3 = pc' := by rfl) :
    W l Z R K Q h cc ss pc ls st := by
  subst hst hc' hs' hp
  intro T L X N e
  obtain ⟨cq, kq, qa, qb, qc⟩ := isOf (T := T) ok.2.1 e E
  obtain ⟨v, _, ⟨T', L', k', n'⟩, -, X', ⟨Lc, hQ, l1, l2, l3⟩, stp⟩ := X.virtualBack ok.1 (y := z) (z := z') ok.2.2.2.2.1 (mvT ok.2.1 (tb _ (List.mem_of_getElem? w1))) (mvT ok.2.1 (tb _ (List.mem_of_getElem? w2))) nf (mvT ok.2.1 (tb _ (List.mem_of_getElem? w3))) (mvT ok.2.1 (tb _ (List.mem_of_getElem? w4))) hm
    (backOf (W := wgt) (Q := fun v h L => Q' v h ∧ Fr Z.heap.size L) (con []) ok.2.1 (tb _ (List.mem_of_getElem? w5)) (tb _ (List.mem_of_getElem? w6)) hf hl) qa qc (g := mkF K.m pc ls (argsL.reverse ++ .ref a :: rest)) rfl (hsz.trans ok.2.2.2.1.symm) (Steps.refl _) (argsL := argsL) (rest := rest) (lenOf hpd hlen) rfl (by simpa using hW) (hb ok.2.2.1 hd) (fun _ _ => ⟨rfl, e, hc, hs⟩)
  dsimp only [Pt.U, Pt.locs, Pt.cells, Pt.slots] at X' l1 l2 l3 stp hQ
  subst l1 l2 l3
  exact Ends.step (fun t k => stp.trans k) (H v T'.heap hQ.1 T' _ X' (N.app hQ.2) rfl)
theorem W.callU (ok : Ok Z K y code maxL ret) (tb : Tb Z a0 ts) {idx : Nat} {z z' : MethodName} {C owner : String} {code' : ByteArray} {maxL' : Nat} {ret' : Option FieldType} {rm : Room} {Q' : Option Value → Heap → Prop} {ps : List FieldType} {rt : Option FieldType} {a : Addr} {argsL rest : List Value}
    (i1 i2 i3 i4 i5 i6 i7 : Nat) (w1 : ts[i1]? = some (.methodLink y.cls idx z)) (w2 : ts[i2]? = some (.declares ⟨owner, z.name, z.desc⟩)) (w3 : ts[i3]? = some (.selects C z z')) (w4 : ts[i4]? = some (.instanceMethod z')) (w5 : ts[i5]? = some (.code z' code' maxL' ret')) (w6 : ts[i6]? = some (.initialized z'.cls)) (w7 : ts[i7]? = some (.sameMethod z.cls owner z.name z.desc))
    (E : Exa Z h a C)
    (hd : decode code pc = .ok (.invokevirtual idx, 3)) (hpd : parseMethodDescriptor z.desc = some ⟨ps, rt⟩) (con : Con l Z z' code' maxL' ret' rm (.ref a :: argsL).toArray h Q') (wgt cc' ss' pc' : Nat)
    (H : ∀ v h', Q' v h' → W l Z R K Q h' cc' ss' pc' ls (v.toList ++ rest))
    (hm : owner ≠ "java/lang/invoke/MethodHandle" ∧ owner ≠ "java/lang/invoke/VarHandle" := by decide) (hlen : argsL.length = ps.length := by rfl) (hst : st = argsL.reverse ++ .ref a :: rest := by rfl) (hW : (rest.map fun v => v.category).sum ≤ wgt := by exact Nat.le_refl _)
    (hf : rm.frames + 1 ≤ R.frames := by decide) (hl : wgt + (maxL' + 11) + rm.locals ≤ R.locals := by decide) (hc : cc' ≤ R.cells := by decide) (hs : ss' ≤ R.slots := by decide) (hc' : cc + rm.cells = cc' := by rfl) (hs' : ss + rm.slots = ss' := by rfl) (hsz : ls.size = maxL := by rfl) (hp : pc + 3 = pc' := by rfl) :
    W l Z R K Q h cc ss pc ls st := by
  subst hst hc' hs' hp
  intro T L X N e
  obtain ⟨cq, kq, qa, qb, qc⟩ := isOf (T := T) ok.2.1 e E
  obtain ⟨v, _, ⟨T', L', k', n'⟩, -, X', ⟨Lc, hQ, l1, l2, l3⟩, stp⟩ := X.virtualBackUp ok.1 (x := z) (y := z') (owner := owner) ok.2.2.2.2.1 (mvT ok.2.1 (tb _ (List.mem_of_getElem? w1))) (mvT ok.2.1 (tb _ (List.mem_of_getElem? w7))) (mvT ok.2.1 (tb _ (List.mem_of_getElem? w2))) hm (mvT ok.2.1 (tb _ (List.mem_of_getElem? w3))) (mvT ok.2.1 (tb _ (List.mem_of_getElem? w4)))
    (backOf (W := wgt) (Q := fun v h L => Q' v h ∧ Fr Z.heap.size L) (con []) ok.2.1 (tb _ (List.mem_of_getElem? w5)) (tb _ (List.mem_of_getElem? w6)) hf hl) qa qc (g := mkF K.m pc ls (argsL.reverse ++ .ref a :: rest)) rfl (hsz.trans ok.2.2.2.1.symm) (Steps.refl _) (argsL := argsL) (rest := rest) (lenOf hpd hlen) rfl (by simpa using hW) (hb ok.2.2.1 hd) (fun _ _ => ⟨rfl, e, hc, hs⟩)
  dsimp only [Pt.U, Pt.locs, Pt.cells, Pt.slots] at X' l1 l2 l3 stp hQ
  subst l1 l2 l3
  exact Ends.step (fun t k => stp.trans k) (H v T'.heap hQ.1 T' _ X' (N.app hQ.2) rfl)
theorem W.callP (ok : Ok Z K y code maxL ret) (tb : Tb Z a0 ts) {idx : Nat} {z : MethodName} {code' : ByteArray} {maxL' : Nat} {ret' : Option FieldType} {rm : Room} {Q' : Option Value → Heap → Prop} {ps : List FieldType} {rt : Option FieldType} {a : Addr} {C : String} {argsL rest : List Value}
    (i1 i2 i3 i4 i5 i6 : Nat) (w1 : ts[i1]? = some (.methodLink y.cls idx z)) (w2 : ts[i2]? = some (.instanceMethod z)) (w3 : ts[i3]? = some (.selects z.cls z z)) (w4 : ts[i4]? = some (.privateMethod z)) (w5 : ts[i5]? = some (.code z code' maxL' ret')) (w6 : ts[i6]? = some (.initialized z.cls))
    (E : Exa Z h a C)
    (hd : decode code pc = .ok (.invokevirtual idx, 3)) (hpd : parseMethodDescriptor z.desc = some ⟨ps, rt⟩) (con : Con l Z z code' maxL' ret' rm (.ref a :: argsL).toArray h Q') (wgt cc' ss' pc' : Nat)
    (H : ∀ v h', Q' v h' → W l Z R K Q h' cc' ss' pc' ls (v.toList ++ rest))
    (hm : z.cls ≠ "java/lang/invoke/MethodHandle" ∧ z.cls ≠ "java/lang/invoke/VarHandle" := by decide) (hlen : argsL.length = ps.length := by rfl) (hst : st = argsL.reverse ++ .ref a :: rest := by rfl) (hW : (rest.map fun v => v.category).sum ≤ wgt := by exact Nat.le_refl _)
    (hf : rm.frames + 1 ≤ R.frames := by decide) (hl : wgt + (maxL' + 11) + rm.locals ≤ R.locals := by decide) (hc : cc' ≤ R.cells := by decide) (hs : ss' ≤ R.slots := by decide) (hc' : cc + rm.cells = cc' := by rfl) (hs' : ss + rm.slots = ss' := by rfl) (hsz : ls.size = maxL := by rfl) (hp : pc + 3 = pc' := by rfl) :
    W l Z R K Q h cc ss pc ls st := by
  subst hst hc' hs' hp
  intro T L X N e
  obtain ⟨cq, q1, q2⟩ := E.cell
  obtain ⟨v, _, ⟨T', L', k', n'⟩, -, X', ⟨Lc, hQ, l1, l2, l3⟩, stp⟩ := X.privateBack ok.1 (y := z) ok.2.2.2.2.1 (mvT ok.2.1 (tb _ (List.mem_of_getElem? w1))) (mvT ok.2.1 (tb _ (List.mem_of_getElem? w2))) (mvT ok.2.1 (tb _ (List.mem_of_getElem? w3))) (Cond.privateMethod_at (mvP ok.2.1 (tb _ (List.mem_of_getElem? w4)) (args := #[]))) (mvT ok.2.1 (tb _ (List.mem_of_getElem? w5))) hm
    (backOf (W := wgt) (Q := fun v h L => Q' v h ∧ Fr Z.heap.size L) (con []) ok.2.1 (tb _ (List.mem_of_getElem? w5)) (tb _ (List.mem_of_getElem? w6)) hf hl) (g := mkF K.m pc ls (argsL.reverse ++ .ref a :: rest)) rfl (hsz.trans ok.2.2.2.1.symm) (Steps.refl _) (a := a) (by rw [e]; exact q1) q2 (argsL := argsL) (rest := rest) (lenOf hpd hlen) rfl (by simpa using hW) (hb ok.2.2.1 hd) (fun _ _ => ⟨rfl, e, hc, hs⟩)
  dsimp only [Pt.U, Pt.locs, Pt.cells, Pt.slots] at X' l1 l2 l3 stp hQ
  subst l1 l2 l3
  exact Ends.step (fun t k => stp.trans k) (H v T'.heap hQ.1 T' _ X' (N.app hQ.2) rfl)
theorem W.callF (ok : Ok Z K y code maxL ret) (tb : Tb Z a0 ts) {idx cnt : Nat} {z z' : MethodName} {C : String} {code' : ByteArray} {maxL' : Nat} {ret' : Option FieldType} {rm : Room} {Q' : Option Value → Heap → Prop} {ps : List FieldType} {rt : Option FieldType} {a : Addr} {argsL rest : List Value}
    (i1 i2 i3 i4 i5 i6 i7 i8 i9 : Nat) (w1 : ts[i1]? = some (.methodLink y.cls idx z)) (w2 : ts[i2]? = some (.declares z)) (w3 : ts[i3]? = some (.selects C z z')) (w4 : ts[i4]? = some (.instanceMethod z')) (w5 : ts[i5]? = some (.code z' code' maxL' ret')) (w6 : ts[i6]? = some (.initialized z'.cls))
    (w7 : ts[i7]? = some (.interfaceMethod z.cls z.cls z.name z.desc)) (w8 : ts[i8]? = some (.publicMethod z')) (w9 : ts[i9]? = some (.unhidden C z.name z.desc)) (i10 : Nat) (w10 : ts[i10]? = some (.castable C z.cls))
    (E : Exa Z h a C)
    (hd : decode code pc = .ok (.invokeinterface idx cnt, 5)) (hpd : parseMethodDescriptor z.desc = some ⟨ps, rt⟩) (con : Con l Z z' code' maxL' ret' rm (.ref a :: argsL).toArray h Q') (wgt cc' ss' pc' : Nat)
    (H : ∀ v h', Q' v h' → W l Z R K Q h' cc' ss' pc' ls (v.toList ++ rest))
    (hq : ((Jvm.Cond.interfaceMethod z.cls z.cls z.name z.desc).onTables && (Jvm.Cond.interfaceMethod z.cls z.cls z.name z.desc).keepsFace) = true := by rfl) (hm : z.cls ≠ "java/lang/invoke/MethodHandle" ∧ z.cls ≠ "java/lang/invoke/VarHandle" := by decide) (hlen : argsL.length = ps.length := by rfl) (hst : st = argsL.reverse ++ .ref a :: rest := by rfl) (hW : (rest.map fun v => v.category).sum ≤ wgt := by exact Nat.le_refl _)
    (hf : rm.frames + 1 ≤ R.frames := by decide) (hl : wgt + (maxL' + 11) + rm.locals ≤ R.locals := by decide) (hc : cc' ≤ R.cells := by decide) (hs : ss' ≤ R.slots := by decide) (hc' : cc + rm.cells = cc' := by rfl) (hs' : ss + rm.slots = ss' := by rfl) (hsz : ls.size = maxL := by rfl) (hp : pc + 5 = pc' := by rfl) :
    W l Z R K Q h cc ss pc ls st := by
  subst hst hc' hs' hp
  intro T L X N e
  obtain ⟨cq, kq, qa, qb, qc⟩ := isOf (T := T) ok.2.1 e E
  obtain ⟨v, _, ⟨T', L', k', n'⟩, -, X', ⟨Lc, hQ, l1, l2, l3⟩, stp⟩ := X.interfaceBack ok.1 (xi := z) (y := z') ok.2.2.2.2.1 (mvT ok.2.1 (tb _ (List.mem_of_getElem? w1))) (mvT ok.2.1 (tb _ (List.mem_of_getElem? w2))) (mvT ok.2.1 (tb _ (List.mem_of_getElem? w7)) hq) (mvT ok.2.1 (tb _ (List.mem_of_getElem? w3))) (mvT ok.2.1 (tb _ (List.mem_of_getElem? w4))) (mvT ok.2.1 (tb _ (List.mem_of_getElem? w8))) (mvT ok.2.1 (tb _ (List.mem_of_getElem? w9))) (mvT ok.2.1 (tb _ (List.mem_of_getElem? w10))) hm
    (backOf (W := wgt) (Q := fun v h L => Q' v h ∧ Fr Z.heap.size L) (con []) ok.2.1 (tb _ (List.mem_of_getElem? w5)) (tb _ (List.mem_of_getElem? w6)) hf hl) qa qb qc (g := mkF K.m pc ls (argsL.reverse ++ .ref a :: rest)) rfl (hsz.trans ok.2.2.2.1.symm) (Steps.refl _) (argsL := argsL) (rest := rest) (lenOf hpd hlen) rfl (by simpa using hW) (hb ok.2.2.1 hd) (fun _ _ => ⟨rfl, e, hc, hs⟩)
  dsimp only [Pt.U, Pt.locs, Pt.cells, Pt.slots] at X' l1 l2 l3 stp hQ
  subst l1 l2 l3
  exact Ends.step (fun t k => stp.trans k) (H v T'.heap hQ.1 T' _ X' (N.app hQ.2) rfl)
/-! the heap in pieces: objects (class, fields) and arrays (kind, class, values) made by this run; all that stood at the start stands -/
abbrev Fl : Type := String × String × String × Value
abbrev Pc : Type := (String × List Fl) ⊕ (FieldType × ClassId × List Value)
def Ch (Z : State) (h : Heap) (a : Addr) : Pc → Prop
  | .inl q => Exa Z h a q.1 ∧ ∀ f ∈ q.2, Fld Z h a f.1 f.2.1 f.2.2.1 f.2.2.2
  | .inr q => ∃ c : Cell, Arr Z h a c q.1 ∧ c.cls = q.2.1 ∧ c.slots.toList = q.2.2
def HS (Z : State) (h : Heap) (cs : List (Addr × Pc)) : Prop := Ext Z.heap h ∧ (∀ q ∈ cs, Z.heap.size ≤ q.1 ∧ Ch Z h q.1 q.2) ∧ (cs.map (fun q => q.1)).Nodup
def Lay (Z : State) (fs : List Fl) : Prop := (fs.map fun f => Jvm.RoadKit.slotOf Z f.1 f.2.1 f.2.2.1).Nodup
/-- a new object's fields -/
def Nw (Z : State) (a0 : Array Value) (C : String) (fs : List Fl) : Prop := ∀ f ∈ fs, Laid Z a0 C f.1 f.2.1 f.2.2.1 ∧ ∃ ty, parseFieldDescriptor f.2.2.1 = some ty ∧ defaultValue ty = f.2.2.2
theorem Nw.nil {C : String} : Nw Z a0 C [] := fun _ q => nomatch q
theorem Nw.cons {C O n d : String} {v : Value} {fs : List Fl} (L : Laid Z a0 C O n d) {ty : FieldType} (h1 : parseFieldDescriptor d = some ty) (h2 : defaultValue ty = v) (r : Nw Z a0 C fs) : Nw Z a0 C ((O, n, d, v) :: fs) := fun f hf => by
  rcases List.mem_cons.mp hf with rfl | hf
  · exact ⟨L, ty, h1, h2⟩
  · exact r f hf
theorem Lay.of {C : String} {fs fs0 : List Fl} (nw : Nw Z a0 C fs0) (he : fs.map (fun f => (f.1, f.2.1, f.2.2.1)) = fs0.map (fun f => (f.1, f.2.1, f.2.2.1))) (hn : (fs0.map (fun f => f.2.1)).Nodup := by decide) : Lay Z fs := by
  have e : fs.map (fun f => Jvm.RoadKit.slotOf Z f.1 f.2.1 f.2.2.1) = fs0.map (fun f => Jvm.RoadKit.slotOf Z f.1 f.2.1 f.2.2.1) := by
    have q := congrArg (List.map fun g : String × String × String => Jvm.RoadKit.slotOf Z g.1 g.2.1 g.2.2) he
    simp only [List.map_map] at q
    exact q
  unfold Lay
  rw [e]
  clear e he
  induction fs0 with
  | nil => exact List.nodup_nil
  | cons f fs0 ih =>
    rw [List.map_cons, List.nodup_cons] at hn ⊢
    refine ⟨fun hm => ?_, ih (fun g hg => nw g (List.mem_cons_of_mem _ hg)) hn.2⟩
    obtain ⟨g, hg, eg⟩ := List.mem_map.mp hm
    obtain ⟨L1, t1, p1, -⟩ := nw f (List.mem_cons_self ..)
    obtain ⟨L2, t2, p2, -⟩ := nw g (List.mem_cons_of_mem _ hg)
    exact slot_ne L1 L2 (fun q => hn.1 (List.mem_map.mpr ⟨g, hg, q.symm⟩)) p1 p2 eg.symm
theorem cat_of {v : Value} (h : v.isRef = true) : v.category = 1 := by
  rcases ref_cases h with rfl | ⟨_, rfl⟩ <;> rfl
/-! from the words of a case -/
theorem st_ref {args : Array Value} {C n d k : String} (w : (Jvm.Cond.exactly (.static C n d) k).value args Z none Z [] = some true) (hi : (Jvm.Cond.initializedFor C n d).before args Z = true ∨ ((Jvm.Cond.initialized C).before args Z = true ∧ (Jvm.Cond.laysStatic C n d).before args Z = true)) :
    ∃ a, (Term.static C n d).eval args Z none [] Z = some (.ref a) ∧ Sta Z Z.heap C n d (.ref a) ∧ Exa Z Z.heap a k := by
  obtain ⟨x, e⟩ := exa_v w
  exact ⟨x, e, Sta.start e hi, Exa.start e w⟩
theorem fl_of {args : Array Value} {t : Term} {a : Addr} {C n d : String} {i : Int32} (e : t.eval args Z none [] Z = some (.ref a)) (w : (Jvm.Cond.eq (.field t C n d) (.int i)).value args Z none Z [] = some true) : Fld Z Z.heap a C n d (.int i) := by
  have e2 := fld_at (C := C) (n := n) (dd := d) e
  refine Fld.start ?_
  cases hq : Z.fieldOf? a C n d with
  | none => rw [hq] at e2; simp [Cond.value, e2] at w
  | some v =>
    rw [hq] at e2
    cases v <;> simp [Cond.value, e2, Term.int_eval] at w
    rw [w]
variable {cs : List (Addr × Pc)} {h' : Heap} {a : Addr} {sl : Nat} {v : Value}
theorem Ch.lt {b : Pc} (F : Ch Z h a b) : a < h.size := by
  rcases b with q | q
  · exact F.1.lt
  · obtain ⟨c, A, -⟩ := F; exact A.lt
theorem Ch.ext {b : Pc} (E : Ext h h') (F : Ch Z h a b) : Ch Z h' a b := by
  rcases b with q | q
  · exact ⟨F.1.ext E, fun f hf => (F.2 f hf).ext E⟩
  · obtain ⟨c, A, r⟩ := F; exact ⟨c, A.ext E, r⟩
theorem Ch.other {b : Pc} {x : Addr} (W : Wr h h' x sl v) (ne : a ≠ x) (F : Ch Z h a b) : Ch Z h' a b := by
  rcases b with q | q
  · exact ⟨F.1.wr W, fun f hf => (F.2 f hf).other W (Or.inl ne)⟩
  · obtain ⟨c, A, r⟩ := F; exact ⟨c, A.other W ne, r⟩
theorem HS.nil (Z : State) : HS Z Z.heap [] := ⟨⟨Nat.le_refl _, fun _ _ q => q⟩, fun _ q => (by cases q), List.nodup_nil⟩
theorem HS.at (H : HS Z h cs) {i : Nat} {b : Pc} (hi : cs[i]? = some (a, b)) : Z.heap.size ≤ a ∧ Ch Z h a b := H.2.1 _ (List.mem_of_getElem? hi)
theorem HS.exa (H : HS Z h cs) {i : Nat} {C : String} {fs : List Fl} (hi : cs[i]? = some (a, .inl (C, fs))) : Exa Z h a C := (H.at hi).2.1
theorem HS.fld (H : HS Z h cs) {i j : Nat} {C : String} {fs : List Fl} {O n d : String} (hi : cs[i]? = some (a, .inl (C, fs))) (hj : fs[j]? = some (O, n, d, v)) : Fld Z h a O n d v := (H.at hi).2.2 _ (List.mem_of_getElem? hj)
theorem HS.add (H : HS Z h cs) (E : Ext h h') {b : Pc} (F : Ch Z h' h.size b) : HS Z h' ((h.size, b) :: cs) := by
  refine ⟨⟨Nat.le_trans H.1.1 E.1, fun x c q => E.2 x c (H.1.2 x c q)⟩, fun q hq => ?_, ?_⟩
  · rcases List.mem_cons.mp hq with rfl | hq
    · exact ⟨H.1.1, F⟩
    · exact ⟨(H.2.1 q hq).1, (H.2.1 q hq).2.ext E⟩
  · refine List.nodup_cons.mpr ⟨fun hm => ?_, H.2.2⟩
    obtain ⟨q, hq, e⟩ := List.mem_map.mp hm
    have := (H.2.1 q hq).2.lt
    rw [e] at this
    exact Nat.lt_irrefl _ this
theorem nodup_set {α : Type} {L : List α} (h : L.Nodup) : ∀ {i j : Nat} {x : α}, L[i]? = some x → L[j]? = some x → i = j := fun {i j x} hi hj => (List.getElem?_inj (List.getElem?_eq_some_iff.mp hi).1 h).mp (hi.trans hj.symm)
theorem HS.set (H : HS Z h cs) {i : Nat} {b b' : Pc} (hi : cs[i]? = some (a, b)) (Wq : Wr h h' a sl v) (F : Ch Z h' a b') : HS Z h' (cs.set i (a, b')) := by
  have g := H.at hi
  refine ⟨⟨by rw [Wq.size]; exact H.1.1, fun x c q => ?_⟩, fun q hq => ?_, ?_⟩
  · obtain ⟨c', e1, -, -, -, e5, -⟩ := wr_at Wq (H.1.2 x c q)
    have ne : x ≠ a := fun e => by subst e; exact absurd (Array.getElem?_eq_some_iff.mp q).1 (Nat.not_lt.mpr g.1)
    rw [e5 ne] at e1; exact e1
  · obtain ⟨j, hj⟩ := List.mem_iff_getElem?.mp hq
    rw [List.getElem?_set] at hj
    split at hj
    · split at hj
      · cases hj; exact ⟨g.1, F⟩
      · cases hj
    · rename_i ne
      have m := H.2.1 q (List.mem_of_getElem? hj)
      refine ⟨m.1, m.2.other Wq fun e => ne ?_⟩
      refine nodup_set H.2.2 (x := a) (by simp [hi]) (by simp [hj, e])
  · have : ((cs.set i (a, b')).map fun q => q.1) = cs.map fun q => q.1 := by
      rw [List.map_set]
      refine List.ext_getElem? fun j => ?_
      rw [List.getElem?_set]
      split
      · rename_i e; subst e
        simp [hi]
        exact (List.getElem?_eq_some_iff.mp hi).1
      · rfl
    rw [this]; exact H.2.2
theorem HS.pull (H : HS Z h cs) (i : Nat) {q : Addr × Pc} (cs' : List (Addr × Pc)) (hi : cs[i]? = some q) (e : q :: cs.eraseIdx i = cs') : HS Z h cs' := by
  subst e
  obtain ⟨hlt, rfl⟩ := List.getElem?_eq_some_iff.mp hi
  have pm : (cs[i] :: cs.eraseIdx i).Perm cs := by
    rw [List.eraseIdx_eq_take_drop_succ]
    have e := List.take_append_drop i cs
    rw [List.drop_eq_getElem_cons hlt] at e
    exact List.perm_middle.symm.trans (List.Perm.of_eq e)
  exact ⟨H.1, fun q hq => H.2.1 q (pm.mem_iff.mp hq), (pm.map _).nodup_iff.mpr H.2.2⟩
theorem HS.drop (H : HS Z h cs) {cs' : List (Addr × Pc)} (s : cs'.Sublist cs) : HS Z h cs' := ⟨H.1, fun q hq => H.2.1 q (s.mem hq), H.2.2.sublist (s.map _)⟩
theorem HS.sta (H : HS Z h cs) {O n d : String} (S : Sta Z Z.heap O n d v) : Sta Z h O n d v := S.ext H.1
theorem HS.ne (H : HS Z h cs) {i j : Nat} {x : Addr} {b b' : Pc} (hi : cs[i]? = some (a, b)) (hj : cs[j]? = some (x, b')) (n : i ≠ j) : a ≠ x := fun e => n (nodup_set H.2.2 (x := a) (by simp [hi]) (by simp [hj, e]))
theorem HS.ne_old (H : HS Z h cs) {i : Nat} {x : Addr} {b : Pc} (hi : cs[i]? = some (a, b)) (hx : x < Z.heap.size) : a ≠ x := fun e => by subst e; exact absurd hx (Nat.not_lt.mpr (H.at hi).1)
theorem Ch.put {C O n d : String} {fs : List Fl} {j : Nat} {w : Value} (F : Ch Z h a (.inl (C, fs))) (hj : fs[j]? = some (O, n, d, w)) (lay : Lay Z fs) (Wq : Wr h h' a (Jvm.RoadKit.slotOf Z O n d) v) : Ch Z h' a (.inl (C, fs.set j (O, n, d, v))) := by
  refine ⟨F.1.wr Wq, fun f hf => ?_⟩
  obtain ⟨k, hk⟩ := List.mem_iff_getElem?.mp hf
  rw [List.getElem?_set] at hk
  split at hk
  · split at hk
    · cases hk; exact (F.2 _ (List.mem_of_getElem? hj)).same Wq
    · cases hk
  · rename_i ne
    refine (F.2 _ (List.mem_of_getElem? hk)).other Wq (Or.inr fun e => ne ?_)
    exact nodup_set lay (x := Jvm.RoadKit.slotOf Z O n d) (by simp [hj]) (by simp [hk, e])
theorem W.getF (ok : Ok Z K y code maxL ret) (tb : Tb Z a0 ts) {idx : Nat} {R0 O n d : String} (i1 : Nat) (w1 : ts[i1]? = some (.fieldLink y.cls idx R0 n d)) (via : Via Z R0 O n d) (F : Fld Z h a O n d v) (hd : decode code pc = .ok (.getfield idx, 3)) (pc' : Nat) (G : W l Z R K Q h cc ss pc' ls (v :: st)) (hp : pc + 3 = pc' := by rfl) :
    W l Z R K Q h cc ss pc ls (.ref a :: st) := by
  subst hp
  intro T L X N e
  obtain ⟨T', X', e', stp⟩ := Jvm.RoadKit.getF X ok.1 ok.2.1 ok.2.2.2.2.1 (host := "") (Or.inl (tb _ (List.mem_of_getElem? w1))) via e F (g := mkF K.m pc ls (.ref a :: st)) rfl rfl (hb ok.2.2.1 hd)
  exact Ends.step stp (G T' _ X' N e')
theorem W.getFN (ok : Ok Z K y code maxL ret) (tb : Tb Z a0 ts) {idx : Nat} {R0 O n d host : String} (i1 : Nat) (w1 : ts[i1]? = some (.fieldLinkNest y.cls idx R0 n d host)) (via : Via Z R0 O n d) (F : Fld Z h a O n d v) (hd : decode code pc = .ok (.getfield idx, 3)) (pc' : Nat) (G : W l Z R K Q h cc ss pc' ls (v :: st)) (hp : pc + 3 = pc' := by rfl) :
    W l Z R K Q h cc ss pc ls (.ref a :: st) := by
  subst hp
  intro T L X N e
  obtain ⟨T', X', e', stp⟩ := Jvm.RoadKit.getF X ok.1 ok.2.1 ok.2.2.2.2.1 (Or.inr (tb _ (List.mem_of_getElem? w1))) via e F (g := mkF K.m pc ls (.ref a :: st)) rfl rfl (hb ok.2.2.1 hd)
  exact Ends.step stp (G T' _ X' N e')
theorem W.getS (ok : Ok Z K y code maxL ret) (tb : Tb Z a0 ts) {idx : Nat} {R0 O n d : String} (i1 : Nat) (w1 : ts[i1]? = some (.fieldLink y.cls idx R0 n d)) (via : Via Z R0 O n d) (S : Sta Z h O n d v) (hd : decode code pc = .ok (.getstatic idx, 3)) (pc' : Nat) (G : W l Z R K Q h cc ss pc' ls (v :: st)) (hp : pc + 3 = pc' := by rfl) :
    W l Z R K Q h cc ss pc ls st := by
  subst hp
  intro T L X N e
  obtain ⟨T', X', e', stp⟩ := Jvm.RoadKit.getS X ok.1 ok.2.1 ok.2.2.2.2.1 (host := "") (tb _ (List.mem_of_getElem? w1)) via e S (g := mkF K.m pc ls st) rfl (hb ok.2.2.1 hd)
  exact Ends.step stp (G T' _ X' N e')
theorem W.getSN (ok : Ok Z K y code maxL ret) (tb : Tb Z a0 ts) {idx : Nat} {R0 O n d host : String} (i1 : Nat) (w1 : ts[i1]? = some (.fieldLinkNest y.cls idx R0 n d host)) (via : Via Z R0 O n d) (S : Sta Z h O n d v) (hd : decode code pc = .ok (.getstatic idx, 3)) (pc' : Nat) (G : W l Z R K Q h cc ss pc' ls (v :: st)) (hp : pc + 3 = pc' := by rfl) :
    W l Z R K Q h cc ss pc ls st := by
  subst hp
  intro T L X N e
  obtain ⟨T', X', e', stp⟩ := Jvm.RoadKit.getS2 X ok.1 ok.2.1 ok.2.2.2.2.1 (Or.inr (tb _ (List.mem_of_getElem? w1))) via e S (g := mkF K.m pc ls st) rfl (hb ok.2.2.1 hd)
  exact Ends.step stp (G T' _ X' N e')
/-- putfield into a piece; Lq: 'lays', or 'laysFinal' in a constructor -/
theorem W.putF (ok : Ok Z K y code maxL ret) (tb : Tb Z a0 ts) (H : HS Z h cs) {idx i j kk : Nat} {R0 C O n d : String} {fs : List Fl} {w0 w' : Value} {ty : FieldType} (hi : cs[i]? = some (a, .inl (C, fs))) (hj : fs[j]? = some (O, n, d, w0))
    (i1 i2 : Nat) (w1 : ts[i1]? = some (.fieldLink y.cls idx R0 n d)) (w2 : ts[i2]? = some (.instantiable C kk)) (via : Via Z R0 O n d) (Lq : (Jvm.Cond.lays C O n d).before a0 Z = true ∨ ((Jvm.Cond.laysFinal C O n d).before a0 Z = true ∧ y.cls = O ∧ y.name = "<init>")) (lay : Lay Z fs)
    (hty : parseFieldDescriptor d = some ty) (hn : narrow ty v = w') (hf : fits ty w' = true) (hd : decode code pc = .ok (.putfield idx, 3)) (pc' : Nat) (cs' : List (Addr × Pc)) (hcs : cs.set i (a, .inl (C, fs.set j (O, n, d, w'))) = cs') (G : ∀ h', HS Z h' cs' → W l Z R K Q h' cc ss pc' ls st) (hp : pc + 3 = pc' := by rfl) :
    W l Z R K Q h cc ss pc ls (v :: .ref a :: st) := by
  subst hp hcs
  intro T L X N e
  have g := H.at hi
  obtain ⟨T', h', X', e', W', stp⟩ := Jvm.RoadKit.putFN X ok.1 ok.2.1 ok.2.2.2.2.1 (tb _ (List.mem_of_getElem? w1)) via e (H.fld hi hj) (H.exa hi) (Lq.imp id fun q => ⟨q.1, q.2.1, ok.2.2.2.2.2.2.1.trans q.2.2⟩) (tb _ (List.mem_of_getElem? w2)) hty hn hf (g := mkF K.m pc ls (v :: .ref a :: st)) rfl rfl (hb ok.2.2.1 hd)
  exact Ends.step stp (G h' (H.set hi W' (g.2.put hj lay W')) T' _ X' (Fr.snoc X' N g.1) e')
theorem W.new (ok : Ok Z K y code maxL ret) (tb : Tb Z a0 ts) (H : HS Z h cs) {idx n : Nat} {C : String} (i1 i2 i3 : Nat) (w1 : ts[i1]? = some (.classLink y.cls idx C)) (w2 : ts[i2]? = some (.instantiable C n)) (w3 : ts[i3]? = some (.initialized C)) {fs : List Fl} (nw : Nw Z a0 C fs)
    (hd : decode code pc = .ok (.new idx, 3)) (cc' ss' pc' : Nat) (G : ∀ a h', HS Z h' ((a, .inl (C, fs)) :: cs) → W l Z R K Q h' cc' ss' pc' ls (.ref a :: st)) (hc : cc' ≤ R.cells := by decide) (hs : ss' ≤ R.slots := by decide) (hc' : cc + 1 = cc' := by rfl) (hs' : ss + n = ss' := by rfl) (hp : pc + 3 = pc' := by rfl) :
    W l Z R K Q h cc ss pc ls st := by
  subst hp hc' hs'
  intro T L X N e
  obtain ⟨T', h', X', e', E', A', D', -, stp⟩ := Jvm.RoadKit.newO X ok.1 ok.2.1 ok.2.2.2.2.1 (tb _ (List.mem_of_getElem? w1)) (tb _ (List.mem_of_getElem? w2)) (tb _ (List.mem_of_getElem? w3)) e (g := mkF K.m pc ls st) rfl (hb ok.2.2.1 hd) hc hs
  refine Ends.step stp (G h.size h' (H.add E' ⟨A', fun f hf => ?_⟩) T' _ X' N e')
  obtain ⟨L1, ty, t1, t2⟩ := nw f hf
  have q := D' L1 t1
  rw [t2] at q
  exact q
theorem len_eq {c : Cell} {vs : List Value} (e : c.slots.toList = vs) : c.slots.size = vs.length := by rw [← e]; simp
theorem at_eq {c : Cell} {vs : List Value} (e : c.slots.toList = vs) (k : Nat) : c.slots[k]? = vs[k]? := by rw [← e]; simp
theorem in_of {c : Cell} {vs : List Value} {j : Int32} (e : c.slots.toList = vs) (hj : ¬ j < 0) (hv : j.toNatClampNeg < vs.length) : ¬ (j < 0 ∨ c.slots.size ≤ j.toNatClampNeg) := by
  rw [len_eq e]; exact fun q => q.elim hj (by omega)
theorem lt_of_at {vs : List Value} {k : Nat} (hv : vs[k]? = some v) : k < vs.length := (List.getElem?_eq_some_iff.mp hv).1
theorem W.newP (ok : Ok Z K y code maxL ret) (tb : Tb Z a0 ts) (H : HS Z h cs) {aty : ArrayType} {n : Int32} (i1 : Nat) (w1 : ts[i1]? = some (.arrayClass (newarray.typeOf aty))) (hd : decode code pc = .ok (.newarray aty, 2)) (cap : Nat) (vs : List Value) (hvs : List.replicate n.toNatClampNeg (defaultValue (newarray.typeOf aty)) = vs) (cc' ss' pc' : Nat)
    (hn : ¬ n < 0) (hcap : n.toNatClampNeg ≤ cap) (G : ∀ a k h', HS Z h' ((a, .inr (newarray.typeOf aty, k, vs)) :: cs) → W l Z R K Q h' cc' ss' pc' ls (.ref a :: st))
    (hb' : cap * 8 ≤ 536870912 := by decide) (hc : cc' ≤ R.cells := by decide) (hs : ss' ≤ R.slots := by decide) (hc' : cc + 1 = cc' := by rfl) (hs' : ss + cap = ss' := by rfl) (hp : pc + 2 = pc' := by rfl) :
    W l Z R K Q h cc ss pc ls (.int n :: st) := by
  subst hp hc' hs' hvs
  intro T L X N e
  obtain ⟨T', h', k, X', e', E', A', stp⟩ := Jvm.RoadKit.newP X ok.1 ok.2.1 (tb _ (List.mem_of_getElem? w1)) e (g := mkF K.m pc ls (.int n :: st)) rfl (hb ok.2.2.1 hd) rfl hn hcap hb' hc hs
  exact Ends.step stp (G h.size k h' (H.add E' ⟨_, A', rfl, by simp [newA]⟩) T' _ X' N e')
theorem W.newR (ok : Ok Z K y code maxL ret) (tb : Tb Z a0 ts) (H : HS Z h cs) {idx : Nat} {C : String} {n : Int32} (i1 i2 : Nat) (w1 : ts[i1]? = some (.classLink y.cls idx C)) (w2 : ts[i2]? = some (.arrayOver (.object C))) (hd : decode code pc = .ok (.anewarray idx, 3)) (cap : Nat) (vs : List Value) (hvs : List.replicate n.toNatClampNeg Value.null = vs) (cc' ss' pc' : Nat)
    (hn : ¬ n < 0) (hcap : n.toNatClampNeg ≤ cap) (G : ∀ a k h', Ovr Z k C → HS Z h' ((a, .inr (.object C, k, vs)) :: cs) → W l Z R K Q h' cc' ss' pc' ls (.ref a :: st))
    (hb' : cap * 8 ≤ 536870912 := by decide) (hc : cc' ≤ R.cells := by decide) (hs : ss' ≤ R.slots := by decide) (hc' : cc + 1 = cc' := by rfl) (hs' : ss + cap = ss' := by rfl) (hp : pc + 3 = pc' := by rfl) :
    W l Z R K Q h cc ss pc ls (.int n :: st) := by
  subst hp hc' hs' hvs
  intro T L X N e
  obtain ⟨T', h', k, X', e', E', A', O', stp⟩ := Jvm.RoadKit.newR X ok.1 ok.2.1 ok.2.2.2.2.1 (tb _ (List.mem_of_getElem? w1)) (tb _ (List.mem_of_getElem? w2)) e (g := mkF K.m pc ls (.int n :: st)) rfl (hb ok.2.2.1 hd) rfl hn hcap hb' hc hs
  exact Ends.step stp (G h.size k h' O' (H.add E' ⟨_, A', rfl, by simp [newA, defaultValue]⟩) T' _ X' N e')
theorem W.alen (ok : Ok Z K y code maxL ret) (H : HS Z h cs) {i : Nat} {ty : FieldType} {k : ClassId} {vs : List Value} (hi : cs[i]? = some (a, .inr (ty, k, vs))) (hd : decode code pc = .ok (.arraylength, 1)) (pc' : Nat) (n : Int32) (hn : vs.length.toInt32 = n) (G : W l Z R K Q h cc ss pc' ls (.int n :: st)) (hp : pc + 1 = pc' := by rfl) :
    W l Z R K Q h cc ss pc ls (.ref a :: st) := by
  subst hp hn
  intro T L X N e
  obtain ⟨c, A, -, q⟩ := (H.at hi).2
  refine Ends.step (fun t kt => X.arraylength ok.1 (by rw [e]; exact A.1) (State.isArrayOf_alike ok.2.1.alike A.2.1) (g := mkF K.m pc ls (.ref a :: st)) rfl rfl (hb ok.2.2.1 hd) _ ?_) (G T _ X N e)
  rw [len_eq q]; exact kt
theorem W.iald (ok : Ok Z K y code maxL ret) (H : HS Z h cs) {i : Nat} {k : ClassId} {vs : List Value} {j : Int32} (hi : cs[i]? = some (a, .inr (.int, k, vs))) (hj : ¬ j < 0) (hv : vs[j.toNatClampNeg]? = some v) (hd : decode code pc = .ok (.iaload, 1)) (pc' : Nat) (G : W l Z R K Q h cc ss pc' ls (v :: st)) (hp : pc + 1 = pc' := by rfl) :
    W l Z R K Q h cc ss pc ls (.int j :: .ref a :: st) := by
  subst hp
  intro T L X N e
  obtain ⟨c, A, -, q⟩ := (H.at hi).2
  exact Ends.step (fun t kt => X.iaload ok.1 (j := j) (v := v) (by rw [e]; exact A.1) (State.isArrayOf_alike ok.2.1.alike A.2.1) A.2.2 (in_of q hj (lt_of_at hv)) ((at_eq q _).trans hv) (g := mkF K.m pc ls (.int j :: .ref a :: st)) rfl rfl (hb ok.2.2.1 hd) _ kt) (G T _ X N e)
theorem W.cald (ok : Ok Z K y code maxL ret) (H : HS Z h cs) {i : Nat} {k : ClassId} {vs : List Value} {j : Int32} (hi : cs[i]? = some (a, .inr (.char, k, vs))) (hj : ¬ j < 0) (hv : vs[j.toNatClampNeg]? = some v) (hd : decode code pc = .ok (.caload, 1)) (pc' : Nat) (G : W l Z R K Q h cc ss pc' ls (v :: st)) (hp : pc + 1 = pc' := by rfl) :
    W l Z R K Q h cc ss pc ls (.int j :: .ref a :: st) := by
  subst hp
  intro T L X N e
  obtain ⟨c, A, -, q⟩ := (H.at hi).2
  exact Ends.step (fun t kt => X.caload ok.1 (j := j) (v := v) (by rw [e]; exact A.1) (State.isArrayOf_alike ok.2.1.alike A.2.1) A.2.2 (in_of q hj (lt_of_at hv)) ((at_eq q _).trans hv) (g := mkF K.m pc ls (.int j :: .ref a :: st)) rfl rfl (hb ok.2.2.1 hd) _ kt) (G T _ X N e)
theorem W.bald (ok : Ok Z K y code maxL ret) (H : HS Z h cs) {i : Nat} {k : ClassId} {vs : List Value} {j : Int32} (hi : cs[i]? = some (a, .inr (.byte, k, vs))) (hj : ¬ j < 0) (hv : vs[j.toNatClampNeg]? = some v) (hd : decode code pc = .ok (.baload, 1)) (pc' : Nat) (G : W l Z R K Q h cc ss pc' ls (v :: st)) (hp : pc + 1 = pc' := by rfl) :
    W l Z R K Q h cc ss pc ls (.int j :: .ref a :: st) := by
  subst hp
  intro T L X N e
  obtain ⟨c, A, -, q⟩ := (H.at hi).2
  exact Ends.step (fun t kt => X.baloadBytes ok.1 (j := j) (v := v) (by rw [e]; exact A.1) (State.isArrayOf_alike ok.2.1.alike A.2.1) A.2.2 (in_of q hj (lt_of_at hv)) ((at_eq q _).trans hv) (g := mkF K.m pc ls (.int j :: .ref a :: st)) rfl rfl (hb ok.2.2.1 hd) _ kt) (G T _ X N e)
theorem W.zald (ok : Ok Z K y code maxL ret) (H : HS Z h cs) {i : Nat} {k : ClassId} {vs : List Value} {j : Int32} (hi : cs[i]? = some (a, .inr (.boolean, k, vs))) (hj : ¬ j < 0) (hv : vs[j.toNatClampNeg]? = some v) (hd : decode code pc = .ok (.baload, 1)) (pc' : Nat) (G : W l Z R K Q h cc ss pc' ls (v :: st)) (hp : pc + 1 = pc' := by rfl) :
    W l Z R K Q h cc ss pc ls (.int j :: .ref a :: st) := by
  subst hp
  intro T L X N e
  obtain ⟨c, A, -, q⟩ := (H.at hi).2
  exact Ends.step (fun t kt => X.baloadBooleans ok.1 (j := j) (v := v) (by rw [e]; exact A.1) (State.isArrayOf_alike ok.2.1.alike A.2.1) A.2.2 (in_of q hj (lt_of_at hv)) ((at_eq q _).trans hv) (g := mkF K.m pc ls (.int j :: .ref a :: st)) rfl rfl (hb ok.2.2.1 hd) _ kt) (G T _ X N e)
theorem W.aald (ok : Ok Z K y code maxL ret) (H : HS Z h cs) {i : Nat} {ty : FieldType} {k : ClassId} {vs : List Value} {j : Int32} (hi : cs[i]? = some (a, .inr (ty, k, vs))) (hj : ¬ j < 0) (hv : vs[j.toNatClampNeg]? = some v) (hd : decode code pc = .ok (.aaload, 1)) (pc' : Nat) (G : W l Z R K Q h cc ss pc' ls (v :: st)) (hty : ty.isReference = true := by rfl) (hp : pc + 1 = pc' := by rfl) :
    W l Z R K Q h cc ss pc ls (.int j :: .ref a :: st) := by
  subst hp
  intro T L X N e
  obtain ⟨c, A, -, q⟩ := (H.at hi).2
  exact Ends.step (fun t kt => X.aaload ok.1 (j := j) (v := v) (by rw [e]; exact A.1) (State.isArrayOf_alike ok.2.1.alike A.2.1) hty A.2.2 (in_of q hj (lt_of_at hv)) ((at_eq q _).trans hv) (g := mkF K.m pc ls (.int j :: .ref a :: st)) rfl rfl (hb ok.2.2.1 hd) _ kt) (G T _ X N e)
theorem Ch.aput {ty : FieldType} {k : ClassId} {vs : List Value} {n : Nat} {c : Cell} (A : Arr Z h a c ty) (e1 : c.cls = k) (e2 : c.slots.toList = vs) (Wq : Wr h h' a n v) : Ch Z h' a (.inr (ty, k, vs.set n v)) :=
  ⟨_, A.same Wq, e1, by subst e2; simp [Cell.setSlot]⟩
theorem W.iast (ok : Ok Z K y code maxL ret) (H : HS Z h cs) {i : Nat} {k : ClassId} {vs : List Value} {j x : Int32} (hi : cs[i]? = some (a, .inr (.int, k, vs))) (hj : ¬ j < 0) (hv : j.toNatClampNeg < vs.length) (hd : decode code pc = .ok (.iastore, 1)) (pc' : Nat) (cs' : List (Addr × Pc)) (hcs : cs.set i (a, .inr (.int, k, vs.set j.toNatClampNeg (.int x))) = cs') (G : ∀ h', HS Z h' cs' → W l Z R K Q h' cc ss pc' ls st) (hp : pc + 1 = pc' := by rfl) :
    W l Z R K Q h cc ss pc ls (.int x :: .int j :: .ref a :: st) := by
  subst hp hcs
  intro T L X N e
  have g := H.at hi
  obtain ⟨c, A, e1, e2⟩ := g.2
  obtain ⟨T', h', X', e', W', stp⟩ := Jvm.RoadKit.stI X ok.1 ok.2.1 e A (j := j) (in_of e2 hj hv) (g := mkF K.m pc ls (.int x :: .int j :: .ref a :: st)) rfl rfl (hb ok.2.2.1 hd)
  exact Ends.step stp (G h' (H.set hi W' (Ch.aput A e1 e2 W')) T' _ X' (Fr.snoc X' N g.1) e')
theorem W.cast (ok : Ok Z K y code maxL ret) (H : HS Z h cs) {i : Nat} {k : ClassId} {vs : List Value} {j x : Int32} (hi : cs[i]? = some (a, .inr (.char, k, vs))) (hj : ¬ j < 0) (hv : j.toNatClampNeg < vs.length) (w : Int32) (hw : (nar .char x) = w) (hd : decode code pc = .ok (.castore, 1)) (pc' : Nat) (cs' : List (Addr × Pc)) (hcs : cs.set i (a, .inr (.char, k, vs.set j.toNatClampNeg (.int w))) = cs') (G : ∀ h', HS Z h' cs' → W l Z R K Q h' cc ss pc' ls st) (hp : pc + 1 = pc' := by rfl) :
    W l Z R K Q h cc ss pc ls (.int x :: .int j :: .ref a :: st) := by
  subst hp hw hcs
  intro T L X N e
  have g := H.at hi
  obtain ⟨c, A, e1, e2⟩ := g.2
  obtain ⟨T', h', X', e', W', stp⟩ := Jvm.RoadKit.stC X ok.1 ok.2.1 e A (j := j) (in_of e2 hj hv) (g := mkF K.m pc ls (.int x :: .int j :: .ref a :: st)) rfl rfl (hb ok.2.2.1 hd)
  exact Ends.step stp (G h' (H.set hi W' (Ch.aput A e1 e2 W')) T' _ X' (Fr.snoc X' N g.1) e')
theorem W.bast (ok : Ok Z K y code maxL ret) (H : HS Z h cs) {i : Nat} {k : ClassId} {vs : List Value} {j x : Int32} (hi : cs[i]? = some (a, .inr (.byte, k, vs))) (hj : ¬ j < 0) (hv : j.toNatClampNeg < vs.length) (w : Int32) (hw : (nar .byte x) = w) (hd : decode code pc = .ok (.bastore, 1)) (pc' : Nat) (cs' : List (Addr × Pc)) (hcs : cs.set i (a, .inr (.byte, k, vs.set j.toNatClampNeg (.int w))) = cs') (G : ∀ h', HS Z h' cs' → W l Z R K Q h' cc ss pc' ls st) (hp : pc + 1 = pc' := by rfl) :
    W l Z R K Q h cc ss pc ls (.int x :: .int j :: .ref a :: st) := by
  subst hp hw hcs
  intro T L X N e
  have g := H.at hi
  obtain ⟨c, A, e1, e2⟩ := g.2
  obtain ⟨T', h', X', e', W', stp⟩ := Jvm.RoadKit.stB X ok.1 ok.2.1 e A (j := j) (in_of e2 hj hv) (g := mkF K.m pc ls (.int x :: .int j :: .ref a :: st)) rfl rfl (hb ok.2.2.1 hd)
  exact Ends.step stp (G h' (H.set hi W' (Ch.aput A e1 e2 W')) T' _ X' (Fr.snoc X' N g.1) e')
theorem W.zast (ok : Ok Z K y code maxL ret) (H : HS Z h cs) {i : Nat} {k : ClassId} {vs : List Value} {j x : Int32} (hi : cs[i]? = some (a, .inr (.boolean, k, vs))) (hj : ¬ j < 0) (hv : j.toNatClampNeg < vs.length) (w : Int32) (hw : (nar .boolean x) = w) (hd : decode code pc = .ok (.bastore, 1)) (pc' : Nat) (cs' : List (Addr × Pc)) (hcs : cs.set i (a, .inr (.boolean, k, vs.set j.toNatClampNeg (.int w))) = cs') (G : ∀ h', HS Z h' cs' → W l Z R K Q h' cc ss pc' ls st) (hp : pc + 1 = pc' := by rfl) :
    W l Z R K Q h cc ss pc ls (.int x :: .int j :: .ref a :: st) := by
  subst hp hw hcs
  intro T L X N e
  have g := H.at hi
  obtain ⟨c, A, e1, e2⟩ := g.2
  obtain ⟨T', h', X', e', W', stp⟩ := Jvm.RoadKit.stZ X ok.1 ok.2.1 e A (j := j) (in_of e2 hj hv) (g := mkF K.m pc ls (.int x :: .int j :: .ref a :: st)) rfl rfl (hb ok.2.2.1 hd)
  exact Ends.step stp (G h' (H.set hi W' (Ch.aput A e1 e2 W')) T' _ X' (Fr.snoc X' N g.1) e')
theorem W.aast (ok : Ok Z K y code maxL ret) (H : HS Z h cs) {i : Nat} {ty : FieldType} {k : ClassId} {vs : List Value} {j : Int32} (hi : cs[i]? = some (a, .inr (ty, k, vs))) (hj : ¬ j < 0) (hv : j.toNatClampNeg < vs.length) (S : Sto Z h a v) (hd : decode code pc = .ok (.aastore, 1)) (pc' : Nat) (cs' : List (Addr × Pc)) (hcs : cs.set i (a, .inr (ty, k, vs.set j.toNatClampNeg v)) = cs') (G : ∀ h', HS Z h' cs' → W l Z R K Q h' cc ss pc' ls st) (hty : ty.isReference = true := by rfl) (hp : pc + 1 = pc' := by rfl) :
    W l Z R K Q h cc ss pc ls (v :: .int j :: .ref a :: st) := by
  subst hp hcs
  intro T L X N e
  have g := H.at hi
  obtain ⟨c, A, e1, e2⟩ := g.2
  obtain ⟨T', h', X', e', W', stp⟩ := Jvm.RoadKit.stR X ok.1 ok.2.1 e A (j := j) (in_of e2 hj hv) hty S (g := mkF K.m pc ls (v :: .int j :: .ref a :: st)) rfl rfl (hb ok.2.2.1 hd)
  exact Ends.step stp (G h' (H.set hi W' (Ch.aput A e1 e2 W')) T' _ X' (Fr.snoc X' N g.1) e')
theorem HS.sto (H : HS Z h cs) {i : Nat} {ty : FieldType} {k : ClassId} {vs : List Value} {C : String} {x : Addr} (hi : cs[i]? = some (a, .inr (ty, k, vs))) (O : Ovr Z k C) (I : Ins Z h x C true) : Sto Z h a (.ref x) := by
  obtain ⟨c, A, e1, -⟩ := (H.at hi).2
  exact Sto.of A (e1 ▸ O) I
theorem W.castY (ok : Ok Z K y code maxL ret) (tb : Tb Z a0 ts) {idx : Nat} {C : String} (i1 : Nat) (w1 : ts[i1]? = some (.classLink y.cls idx C)) (F : Ins Z h a C true) (hd : decode code pc = .ok (.checkcast idx, 3)) (pc' : Nat) (G : W l Z R K Q h cc ss pc' ls (.ref a :: st)) (hp : pc + 3 = pc' := by rfl) :
    W l Z R K Q h cc ss pc ls (.ref a :: st) := by
  subst hp
  intro T L X N e
  obtain ⟨T', X', e', stp⟩ := Jvm.RoadKit.castY X ok.1 ok.2.1 ok.2.2.2.2.1 (tb _ (List.mem_of_getElem? w1)) e F (g := mkF K.m pc ls (.ref a :: st)) rfl rfl (hb ok.2.2.1 hd)
  exact Ends.step stp (G T' _ X' N e')
theorem W.instY (ok : Ok Z K y code maxL ret) (tb : Tb Z a0 ts) {idx : Nat} {C : String} (i1 : Nat) (w1 : ts[i1]? = some (.classLink y.cls idx C)) (F : Ins Z h a C true) (hd : decode code pc = .ok (.instanceof idx, 3)) (pc' : Nat) (G : W l Z R K Q h cc ss pc' ls (.int 1 :: st)) (hp : pc + 3 = pc' := by rfl) :
    W l Z R K Q h cc ss pc ls (.ref a :: st) := by
  subst hp
  intro T L X N e
  obtain ⟨T', X', e', stp⟩ := Jvm.RoadKit.instY X ok.1 ok.2.1 ok.2.2.2.2.1 (tb _ (List.mem_of_getElem? w1)) e F (g := mkF K.m pc ls (.ref a :: st)) rfl rfl (hb ok.2.2.1 hd)
  exact Ends.step stp (G T' _ X' N e')
theorem W.castN (ok : Ok Z K y code maxL ret) {idx : Nat} (hd : decode code pc = .ok (.checkcast idx, 3)) (pc' : Nat) (G : W l Z R K Q h cc ss pc' ls (.null :: st)) (hp : pc + 3 = pc' := by rfl) : W l Z R K Q h cc ss pc ls (.null :: st) := by
  subst hp
  exact fun T L X N e => Ends.step (fun t k => X.checkcastNull ok.1 (g := mkF K.m pc ls (.null :: st)) rfl rfl (hb ok.2.2.1 hd) _ k) (G T L X N e)
theorem W.instN (ok : Ok Z K y code maxL ret) {idx : Nat} (hd : decode code pc = .ok (.instanceof idx, 3)) (pc' : Nat) (G : W l Z R K Q h cc ss pc' ls (.int 0 :: st)) (hp : pc + 3 = pc' := by rfl) : W l Z R K Q h cc ss pc ls (.null :: st) := by
  subst hp
  exact fun T L X N e => Ends.step (fun t k => X.instanceofNull ok.1 (g := mkF K.m pc ls (.null :: st)) rfl rfl (hb ok.2.2.1 hd) _ k) (G T L X N e)
end Walk
end Jvm.Own
namespace Jvm.Own
open Sem ClassFile Op Lib Jvm.Stand Jvm.Free Jvm.LawKit Jvm.RoadKit
/-! plain part: linear probing -/
def tab (n : Nat) (f : Nat → Value) : List Value := (List.range n).map f
theorem tab_len (n : Nat) (f : Nat → Value) : (tab n f).length = n := by simp [tab]
theorem tab_get {n j : Nat} {f : Nat → Value} (h : j < n) : (tab n f)[j]? = some (f j) := by simp [tab, h]
theorem tab_set {n j : Nat} {f : Nat → Value} (v : Value) : (tab n f).set j v = tab n (fun i => if i = j then v else f i) := by
  refine List.ext_getElem? fun i => ?_
  rw [List.getElem?_set]
  by_cases hi : i < n
  · by_cases e : j = i
    · subst e; rw [if_pos rfl, if_pos (by rw [tab_len]; exact hi), tab_get hi, if_pos rfl]
    · rw [if_neg e, tab_get hi, tab_get hi, if_neg (fun q => e q.symm)]
  · have h1 : (tab n (fun i => if i = j then v else f i))[i]? = none := List.getElem?_eq_none (by rw [tab_len]; omega)
    have h2 : (tab n f)[i]? = none := List.getElem?_eq_none (by rw [tab_len]; omega)
    rw [h1, h2]
    split
    · rename_i e
      subst e
      simp [tab_len, hi]
    · rfl
theorem ix {j : Nat} (h : j < 2 ^ 31) : j.toInt32.toNatClampNeg = j ∧ ¬ (j.toInt32 < 0) := by
  have q : j.toInt32.toInt = j := len_toInt h
  refine ⟨by rw [Int32.toNatClampNeg, q]; simp, ?_⟩
  rw [Int32.lt_iff_toInt_lt, q]; simp only [Int32.reduceToInt]; omega
def hx (key : Int32) : Int32 := (key * (-1640531527)) ^^^ (((key * (-1640531527)).toUInt32 >>> ((16 : Int32) &&& 31).toUInt32).toInt32)
def mk (n : Nat) : Int32 := n.toInt32 - 1
def s0 (n : Nat) (key : Int32) : Nat := (hx key &&& mk n).toNatClampNeg
def pr (n s d : Nat) : Nat := (s + d) % n
theorem s0_spec {n : Nat} (hn : n = 16 ∨ n = 32) (key : Int32) : hx key &&& mk n = (pr n (s0 n key) 0).toInt32 ∧ s0 n key < n := by
  have hm : 0 ≤ (mk n).toInt ∧ (mk n).toInt < n := by rcases hn with rfl | rfl <;> decide
  have h := c_and (hx key) (mk n) hm.1
  have hlt : s0 n key < n := by unfold s0; rw [Int32.toNatClampNeg]; omega
  refine ⟨?_, hlt⟩
  rw [pr, Nat.add_zero, Nat.mod_eq_of_lt hlt]
  refine Int32.toInt_inj.mp ?_
  rw [len_toInt (by rcases hn with rfl | rfl <;> omega)]
  unfold s0
  rw [Int32.toNatClampNeg]
  omega
theorem nx {n : Nat} (hn : n = 16 ∨ n = 32) (s d : Nat) : ((pr n s d).toInt32 + 1) &&& mk n = (pr n s (d + 1)).toInt32 := by
  have e : pr n s (d + 1) = (pr n s d + 1) % n := by unfold pr; rw [← Nat.add_assoc, Nat.add_mod (s + d) 1, Nat.add_mod ((s + d) % n) 1, Nat.mod_mod]
  rw [e]
  have hj : pr n s d < n := Nat.mod_lt _ (by rcases hn with rfl | rfl <;> decide)
  generalize pr n s d = j at hj
  rcases hn with rfl | rfl
  · revert j; decide +kernel
  · revert j; decide +kernel
theorem pr_lt {n : Nat} (hn : n = 16 ∨ n = 32) (s d : Nat) : pr n s d < n := Nat.mod_lt _ (by rcases hn with rfl | rfl <;> decide)
theorem lt31 {n j : Nat} (hn : n = 16 ∨ n = 32) (h : j < n) : j < 2 ^ 31 := by rcases hn with rfl | rfl <;> omega
def stp (K : Nat → Int32) (H : Nat → Bool) (key : Int32) (j : Nat) : Prop := H j = false ∨ K j = key
/-- D is the first stop on key's road -/
def Fst (n : Nat) (K : Nat → Int32) (H : Nat → Bool) (key : Int32) (D : Nat) : Prop := D < n ∧ stp K H key (pr n (s0 n key) D) ∧ ∀ d, d < D → H (pr n (s0 n key) d) = true ∧ ¬ (K (pr n (s0 n key) d) = key)
def Inv (n : Nat) (K : Nat → Int32) (H : Nat → Bool) : Prop := ∀ j, j < n → H j = true → ∃ d, d < n ∧ pr n (s0 n (K j)) d = j ∧ ∀ d', d' < d → H (pr n (s0 n (K j)) d') = true ∧ ¬ (K (pr n (s0 n (K j)) d') = K j)
def cnt (n : Nat) (H : Nat → Bool) : Nat := ((List.range n).filter H).length
theorem free_of {n : Nat} {H : Nat → Bool} (h : cnt n H < n) : ∃ j, j < n ∧ H j = false := by
  by_cases q : ∃ j, j < n ∧ H j = false
  · exact q
  · exfalso
    have : (List.range n).filter H = List.range n := List.filter_eq_self.mpr fun j hj => by
      cases e : H j
      · exact absurd ⟨j, List.mem_range.mp hj, e⟩ q
      · rfl
    unfold cnt at h; rw [this] at h; simp at h
theorem cnt_set {n j : Nat} {H : Nat → Bool} : cnt n (fun i => if i = j then true else H i) ≤ cnt n H + 1 := by
  unfold cnt
  have gj : (fun i => if i = j then true else H i) j = true := if_pos rfl
  have gi : ∀ i, i ≠ j → (fun i => if i = j then true else H i) i = H i := fun i e => if_neg e
  generalize (fun i => if i = j then true else H i) = g at gj gi
  have key : ∀ L : List Nat, L.Nodup → (L.filter g).length ≤ (L.filter H).length + 1 ∧ (j ∉ L → (L.filter g).length = (L.filter H).length) := by
    intro L
    induction L with
    | nil => intro _; simp
    | cons a L ih =>
      intro hn
      rw [List.nodup_cons] at hn
      obtain ⟨i1, i2⟩ := ih hn.2
      by_cases e : a = j
      · subst e
        have i3 := i2 hn.1
        refine ⟨?_, fun q => absurd (List.mem_cons_self ..) q⟩
        rw [List.filter_cons, List.filter_cons, if_pos gj]
        by_cases hh : H a = true
        · rw [if_pos hh]; simp only [List.length_cons]; omega
        · rw [if_neg hh]; simp only [List.length_cons]; omega
      · have ga := gi a e
        rw [List.filter_cons, List.filter_cons, ga]
        refine ⟨?_, fun q => ?_⟩
        · by_cases hh : H a = true
          · rw [if_pos hh, if_pos hh]; simp only [List.length_cons]; omega
          · rw [if_neg hh, if_neg hh]; exact i1
        · have i3 := i2 fun z => q (List.mem_cons_of_mem _ z)
          by_cases hh : H a = true
          · rw [if_pos hh, if_pos hh]; simp only [List.length_cons]; omega
          · rw [if_neg hh, if_neg hh]; exact i3
  exact (key _ List.nodup_range).1
theorem least {P : Nat → Prop} {n : Nat} (h : ∃ d, d < n ∧ P d) : ∃ d, d < n ∧ P d ∧ ∀ d', d' < d → ¬ P d' := by
  obtain ⟨d, h1, h2⟩ := h
  have key : ∀ k d, d ≤ k → P d → ∃ d0, d0 ≤ d ∧ P d0 ∧ ∀ d', d' < d0 → ¬ P d' := by
    intro k
    induction k with
    | zero => intro d hd hp; exact ⟨d, Nat.le_refl _, hp, fun d' h => by omega⟩
    | succ k ih =>
      intro d hd hp
      by_cases q : ∃ d', d' < d ∧ P d'
      · obtain ⟨d', a, b⟩ := q
        obtain ⟨d0, e1, e2, e3⟩ := ih d' (by omega) b
        exact ⟨d0, by omega, e2, e3⟩
      · exact ⟨d, Nat.le_refl _, hp, fun d' h hp' => q ⟨d', h, hp'⟩⟩
  obtain ⟨d0, e1, e2, e3⟩ := key d d (Nat.le_refl _) h2
  exact ⟨d0, by omega, e2, e3⟩
theorem fst_ex {n : Nat} (hn : n = 16 ∨ n = 32) {K : Nat → Int32} {H : Nat → Bool} (hc : cnt n H < n) (key : Int32) : ∃ D, Fst n K H key D := by
  obtain ⟨j, hj, hf⟩ := free_of hc
  have hs := (s0_spec hn key).2
  have hp : pr n (s0 n key) ((j + n - s0 n key) % n) = j := by
    unfold pr
    rw [Nat.add_mod, Nat.mod_mod, ← Nat.add_mod]
    have : s0 n key + (j + n - s0 n key) = j + n := by omega
    rw [this, Nat.add_mod_right, Nat.mod_eq_of_lt hj]
  obtain ⟨d, h1, h2, h3⟩ := least (P := fun d => stp K H key (pr n (s0 n key) d)) ⟨(j + n - s0 n key) % n, Nat.mod_lt _ (by omega), by show stp _ _ _ _; rw [hp]; exact Or.inl hf⟩
  refine ⟨d, h1, h2, fun d' hd => ?_⟩
  have q := h3 d' hd
  unfold stp at q
  constructor
  · cases e : H (pr n (s0 n key) d')
    · exact absurd (Or.inl e) q
    · rfl
  · exact fun z => q (Or.inr z)
/-- at a free first stop no held place bears the key -/
theorem fst_free {n : Nat} {K : Nat → Int32} {H : Nat → Bool} {key : Int32} {D : Nat} (I : Inv n K H) (F : Fst n K H key D) (hf : H (pr n (s0 n key) D) = false) : ∀ j, j < n → H j = true → ¬ (K j = key) := by
  intro j hj hh e
  obtain ⟨d, h1, h2, h3⟩ := I j hj hh
  rw [e] at h2 h3
  rcases Nat.lt_trichotomy d D with q | q | q
  · exact (F.2.2 d q).2 (by rw [h2]; exact e)
  · subst q; rw [h2, hh] at hf; cases hf
  · have := (h3 D q).1
    rw [hf] at this; cases this
theorem inv_uniq {n : Nat} {K : Nat → Int32} {H : Nat → Bool} (I : Inv n K H) {i j : Nat} (hi : i < n) (hj : j < n) (h1 : H i = true) (h2 : H j = true) (e : K i = K j) : i = j := by
  obtain ⟨d, a1, a2, a3⟩ := I i hi h1
  obtain ⟨d', b1, b2, b3⟩ := I j hj h2
  rw [e] at a2 a3
  rcases Nat.lt_trichotomy d d' with q | q | q
  · exact absurd (by rw [a2]; exact e) (b3 d q).2
  · subst q; exact a2.symm.trans b2
  · exact absurd (by rw [b2]) (a3 d' q).2
/-- the place of key is taken -/
theorem inv_put {n : Nat} (hn : n = 16 ∨ n = 32) {K : Nat → Int32} {H : Nat → Bool} {key : Int32} {D : Nat} (I : Inv n K H) (F : Fst n K H key D) (hf : H (pr n (s0 n key) D) = false) :
    Inv n (fun i => if i = pr n (s0 n key) D then key else K i) (fun i => if i = pr n (s0 n key) D then true else H i) := by
  intro j hj hh
  by_cases e : j = pr n (s0 n key) D
  · subst e
    refine ⟨D, F.1, ?_, ?_⟩
    · simp
    · intro d hd
      have q := F.2.2 d hd
      have ne : ¬ (pr n (s0 n key) d = pr n (s0 n key) D) := fun z => by rw [z, hf] at q; cases q.1
      simp only [if_true, if_neg ne]
      exact q
  · simp only [if_neg e] at hh ⊢
    obtain ⟨d, h1, h2, h3⟩ := I j hj hh
    refine ⟨d, h1, h2, fun d' hd => ?_⟩
    have q := h3 d' hd
    have ne : ¬ (pr n (s0 n (K j)) d' = pr n (s0 n key) D) := fun z => by rw [z, hf] at q; cases q.1
    simp only [if_neg ne]
    exact q
def upd (m : Int32 → Option Value) (key : Int32) (v : Value) : Int32 → Option Value := fun k => if k = key then some v else m k
def Rep (n : Nat) (K : Nat → Int32) (H : Nat → Bool) (V : Nat → Value) (m : Int32 → Option Value) : Prop := ∀ k v, m k = some v ↔ ∃ j, j < n ∧ H j = true ∧ K j = k ∧ V j = v
theorem rep_hit {n : Nat} (hn : n = 16 ∨ n = 32) {K : Nat → Int32} {H : Nat → Bool} {V : Nat → Value} {m : Int32 → Option Value} {key : Int32} {D : Nat} {w : Value} (I : Inv n K H) (R : Rep n K H V m) (hh : H (pr n (s0 n key) D) = true) (hk : K (pr n (s0 n key) D) = key) :
    Rep n K H (fun i => if i = pr n (s0 n key) D then w else V i) (upd m key w) := by
  intro k v
  unfold upd
  have hlt := pr_lt hn (s0 n key) D
  by_cases e : k = key
  · subst e
    rw [if_pos rfl]
    constructor
    · intro q; cases q; exact ⟨_, hlt, hh, hk, by simp⟩
    · rintro ⟨j, h1, h2, h3, h4⟩
      have : j = pr n (s0 n k) D := inv_uniq I h1 hlt h2 hh (h3.trans hk.symm)
      dsimp only at h4; rw [if_pos this] at h4; rw [h4]
  · rw [if_neg e, R k v]
    constructor
    · rintro ⟨j, h1, h2, h3, h4⟩
      have ne : ¬ (j = pr n (s0 n key) D) := fun z => e (by rw [← h3, z]; exact hk)
      exact ⟨j, h1, h2, h3, by dsimp only; rw [if_neg ne]; exact h4⟩
    · rintro ⟨j, h1, h2, h3, h4⟩
      have ne : ¬ (j = pr n (s0 n key) D) := fun z => e (by rw [← h3, z]; exact hk)
      dsimp only at h4; rw [if_neg ne] at h4
      exact ⟨j, h1, h2, h3, h4⟩
theorem rep_new {n : Nat} (hn : n = 16 ∨ n = 32) {K : Nat → Int32} {H : Nat → Bool} {V : Nat → Value} {m : Int32 → Option Value} {key : Int32} {D : Nat} {w : Value} (I : Inv n K H) (F : Fst n K H key D) (R : Rep n K H V m) (hf : H (pr n (s0 n key) D) = false) :
    Rep n (fun i => if i = pr n (s0 n key) D then key else K i) (fun i => if i = pr n (s0 n key) D then true else H i) (fun i => if i = pr n (s0 n key) D then w else V i) (upd m key w) := by
  intro k v
  unfold upd
  have hlt := pr_lt hn (s0 n key) D
  have nk := fst_free I F hf
  by_cases e : k = key
  · subst e
    rw [if_pos rfl]
    constructor
    · intro q; cases q; exact ⟨_, hlt, by simp, by simp, by simp⟩
    · rintro ⟨j, h1, h2, h3, h4⟩
      dsimp only at h2 h3 h4
      by_cases z : j = pr n (s0 n k) D
      · rw [if_pos z] at h4; rw [h4]
      · rw [if_neg z] at h2 h3
        exact absurd h3 (nk j h1 h2)
  · rw [if_neg e, R k v]
    constructor
    · rintro ⟨j, h1, h2, h3, h4⟩
      have ne : ¬ (j = pr n (s0 n key) D) := fun z => by rw [z, hf] at h2; cases h2
      exact ⟨j, h1, by dsimp only; rw [if_neg ne]; exact h2, by dsimp only; rw [if_neg ne]; exact h3, by dsimp only; rw [if_neg ne]; exact h4⟩
    · rintro ⟨j, h1, h2, h3, h4⟩
      dsimp only at h2 h3 h4
      have ne : ¬ (j = pr n (s0 n key) D) := fun z => by rw [if_pos z] at h3; exact e h3.symm
      rw [if_neg ne] at h2 h3 h4
      exact ⟨j, h1, h2, h3, h4⟩
theorem rep_get {n : Nat} (hn : n = 16 ∨ n = 32) {K : Nat → Int32} {H : Nat → Bool} {V : Nat → Value} {m : Int32 → Option Value} {key : Int32} {D : Nat} (I : Inv n K H) (F : Fst n K H key D) (R : Rep n K H V m) :
    (H (pr n (s0 n key) D) = true → m key = some (V (pr n (s0 n key) D))) ∧ (H (pr n (s0 n key) D) = false → m key = none) := by
  constructor
  · intro hh
    refine (R _ _).mpr ⟨_, pr_lt hn _ _, hh, ?_, rfl⟩
    rcases F.2.1 with q | q
    · rw [hh] at q; cases q
    · exact q
  · intro hf
    cases e : m key with
    | none => rfl
    | some v =>
      obtain ⟨j, h1, h2, h3, -⟩ := (R _ _).mp e
      exact absurd h3 (fst_free I F hf j h1 h2)
/-- the table's state; z: its size -/
def TI (n : Nat) (K : Nat → Int32) (H : Nat → Bool) (V : Nat → Value) (z : Nat) (m : Int32 → Option Value) : Prop :=
  (n = 16 ∨ n = 32) ∧ Inv n K H ∧ cnt n H ≤ z + (n - 16) / 2 ∧ z ≤ 9 ∧ 2 * z ≤ n ∧ Rep n K H V m
theorem TI.cnt_lt {n z : Nat} {K : Nat → Int32} {H : Nat → Bool} {V : Nat → Value} {m : Int32 → Option Value} (T : TI n K H V z m) : cnt n H < n := by
  obtain ⟨hn, -, h1, h2, h3, -⟩ := T
  rcases hn with rfl | rfl <;> omega
theorem TI.zero : TI 16 (fun _ => 0) (fun _ => false) (fun _ => .null) 0 (fun _ => none) := by
  refine ⟨Or.inl rfl, fun j _ h => (by cases h), by decide, by decide, by decide, fun k v => ⟨fun h => (by cases h), fun ⟨j, _, h, _⟩ => (by cases h)⟩⟩
/-- the turns of grow: i places of the old table are in the new one -/
def GI (K : Nat → Int32) (H : Nat → Bool) (V : Nat → Value) (i : Nat) (K2 : Nat → Int32) (H2 : Nat → Bool) (V2 : Nat → Value) : Prop :=
  Inv 32 K2 H2 ∧ cnt 32 H2 ≤ i ∧ ∀ k v, (∃ j, j < 32 ∧ H2 j = true ∧ K2 j = k ∧ V2 j = v) ↔ ∃ j, j < i ∧ H j = true ∧ K j = k ∧ V j = v
theorem GI.zero (K : Nat → Int32) (H : Nat → Bool) (V : Nat → Value) : GI K H V 0 (fun _ => 0) (fun _ => false) (fun _ => .null) :=
  ⟨fun j _ h => (by cases h), by decide, fun k v => ⟨fun ⟨j, _, h, _⟩ => (by cases h), fun ⟨j, h, _⟩ => (by omega)⟩⟩
theorem GI.skip {K K2 : Nat → Int32} {H H2 : Nat → Bool} {V V2 : Nat → Value} {i : Nat} (G : GI K H V i K2 H2 V2) (hf : H i = false) : GI K H V (i + 1) K2 H2 V2 := by
  refine ⟨G.1, by have := G.2.1; omega, fun k v => (G.2.2 k v).trans ⟨fun ⟨j, h1, h2⟩ => ⟨j, by omega, h2⟩, fun ⟨j, h1, h2, h3⟩ => ?_⟩⟩
  have : j ≠ i := fun e => by rw [e, hf] at h2; cases h2
  exact ⟨j, by omega, h2, h3⟩
theorem GI.fst {K K2 : Nat → Int32} {H H2 : Nat → Bool} {V V2 : Nat → Value} {i : Nat} (G : GI K H V i K2 H2 V2) (hi : i < 16) (key : Int32) : ∃ D, Fst 32 K2 H2 key D := fst_ex (Or.inr rfl) (by have := G.2.1; omega) key
theorem GI.put {K K2 : Nat → Int32} {H H2 : Nat → Bool} {V V2 : Nat → Value} {i D : Nat} (I : Inv 16 K H) (G : GI K H V i K2 H2 V2) (hi : i < 16) (hh : H i = true) (F : Fst 32 K2 H2 (K i) D) :
    GI K H V (i + 1) (fun t => if t = pr 32 (s0 32 (K i)) D then K i else K2 t) (fun t => if t = pr 32 (s0 32 (K i)) D then true else H2 t) (fun t => if t = pr 32 (s0 32 (K i)) D then V i else V2 t) := by
  have hf : H2 (pr 32 (s0 32 (K i)) D) = false := by
    cases e : H2 (pr 32 (s0 32 (K i)) D)
    · rfl
    · exfalso
      rcases F.2.1 with q | q
      · rw [e] at q; cases q
      · obtain ⟨j, h1, h2, h3, -⟩ := (G.2.2 _ _).mp ⟨_, pr_lt (Or.inr rfl) _ _, e, q, rfl⟩
        have := inv_uniq I (by omega) hi h2 hh h3
        omega
  refine ⟨inv_put (Or.inr rfl) G.1 F hf, Nat.le_trans cnt_set (by have := G.2.1; omega), fun k v => ?_⟩
  classical
  have R : Rep 32 K2 H2 V2 (fun k => if h : ∃ v, ∃ j, j < 32 ∧ H2 j = true ∧ K2 j = k ∧ V2 j = v then some (Classical.choose h) else none) := by
    intro k v
    constructor
    · intro q
      dsimp only at q
      split at q
      · rename_i h
        cases q
        exact Classical.choose_spec h
      · cases q
    · rintro ⟨j, h1, h2, h3, h4⟩
      have h : ∃ v, ∃ j, j < 32 ∧ H2 j = true ∧ K2 j = k ∧ V2 j = v := ⟨v, j, h1, h2, h3, h4⟩
      simp only [dif_pos h]
      obtain ⟨j', a1, a2, a3, a4⟩ := Classical.choose_spec h
      have := inv_uniq G.1 h1 a1 h2 a2 (h3.trans a3.symm)
      subst this
      rw [← a4, h4]
  have R2 := rep_new (w := V i) (Or.inr rfl) G.1 F R hf
  rw [← R2 k v]
  unfold upd
  by_cases e : k = K i
  · rw [if_pos e]
    constructor
    · intro q; cases q; exact ⟨i, by omega, hh, e.symm, rfl⟩
    · rintro ⟨j, h1, h2, h3, h4⟩
      have := inv_uniq I (by omega) hi h2 hh (h3.trans e)
      subst this; rw [h4]
  · rw [if_neg e, R k v, G.2.2 k v]
    constructor
    · rintro ⟨j, h1, h2⟩; exact ⟨j, by omega, h2⟩
    · rintro ⟨j, h1, h2, h3, h4⟩
      have : j ≠ i := fun q => e (by rw [← h3, q])
      exact ⟨j, by omega, h2, h3, h4⟩
theorem GI.done {K K2 : Nat → Int32} {H H2 : Nat → Bool} {V V2 : Nat → Value} {m : Int32 → Option Value} {z : Nat} (R : Rep 16 K H V m) (G : GI K H V 16 K2 H2 V2) (hz : z = 9) : TI 32 K2 H2 V2 z m :=
  ⟨Or.inr rfl, G.1, by have := G.2.1; omega, by omega, by omega, fun k v => (R k v).trans (G.2.2 k v).symm⟩
/-! the nine puts -/
def Mp (nn : Int32) (ks : Nat → Int32) (vs : Nat → Value) : Nat → Int32 → Option Value
  | 0 => fun _ => none
  | i + 1 => if i.toInt32 < nn then upd (Mp nn ks vs i) (ks i) (vs i) else Mp nn ks vs i
def RR (nn : Int32) (ks : Nat → Int32) (vs : Nat → Value) (xx : Int32) (i : Nat) (la : Int32) : Prop :=
  (la = -1 ∧ Mp nn ks vs i xx = none) ∨ ∃ j : Nat, j < i ∧ la = j.toInt32 ∧ Mp nn ks vs i xx = some (vs j)
theorem RR.zero (nn : Int32) (ks : Nat → Int32) (vs : Nat → Value) (xx : Int32) : RR nn ks vs xx 0 (-1) := Or.inl ⟨rfl, rfl⟩
theorem RR.skip {nn : Int32} {ks : Nat → Int32} {vs : Nat → Value} {xx : Int32} {i : Nat} {la : Int32} (R : RR nn ks vs xx i la) (h : ¬ (i.toInt32 < nn)) : RR nn ks vs xx (i + 1) la := by
  unfold RR Mp
  rw [if_neg h]
  rcases R with ⟨a, b⟩ | ⟨j, a, b, c⟩
  · exact Or.inl ⟨a, b⟩
  · exact Or.inr ⟨j, by omega, b, c⟩
theorem RR.miss {nn : Int32} {ks : Nat → Int32} {vs : Nat → Value} {xx : Int32} {i : Nat} {la : Int32} (R : RR nn ks vs xx i la) (h : i.toInt32 < nn) (hk : ¬ (ks i = xx)) : RR nn ks vs xx (i + 1) la := by
  unfold RR Mp
  rw [if_pos h]
  have e : upd (Mp nn ks vs i) (ks i) (vs i) xx = Mp nn ks vs i xx := if_neg fun q => hk q.symm
  rw [e]
  rcases R with ⟨a, b⟩ | ⟨j, a, b, c⟩
  · exact Or.inl ⟨a, b⟩
  · exact Or.inr ⟨j, by omega, b, c⟩
theorem RR.hit {nn : Int32} {ks : Nat → Int32} {vs : Nat → Value} {xx : Int32} {i : Nat} (h : i.toInt32 < nn) (hk : ks i = xx) : RR nn ks vs xx (i + 1) i.toInt32 := by
  unfold RR Mp
  rw [if_pos h]
  exact Or.inr ⟨i, by omega, rfl, if_pos hk.symm⟩
abbrev fs {α : Type} (f : Nat → α) (j : Nat) (v : α) : Nat → α := fun i => if i = j then v else f i
def bz : Bool → Int32 | true => 1 | false => 0
def tK (n : Nat) (K : Nat → Int32) : List Value := tab n (fun i => .int (K i))
def tH (n : Nat) (H : Nat → Bool) : List Value := tab n (fun i => .int (bz (H i)))
theorem lenK {n : Nat} {K : Nat → Int32} : (tK n K).length.toInt32 = n.toInt32 := by rw [tK, tab_len]
theorem getZ {n j : Nat} {H : Nat → Bool} {b : Bool} (hn : n = 16 ∨ n = 32) (hj : j < n) (hb : H j = b) : (tH n H)[j.toInt32.toNatClampNeg]? = some (.int (bz b)) := by rw [(ix (lt31 hn hj)).1, tH, tab_get hj, hb]
theorem getK {n j : Nat} {K : Nat → Int32} (hn : n = 16 ∨ n = 32) (hj : j < n) : (tK n K)[j.toInt32.toNatClampNeg]? = some (.int (K j)) := by rw [(ix (lt31 hn hj)).1, tK, tab_get hj]
theorem getV {n j : Nat} {V : Nat → Value} (hn : n = 16 ∨ n = 32) (hj : j < n) : (tab n V)[j.toInt32.toNatClampNeg]? = some (V j) := by rw [(ix (lt31 hn hj)).1, tab_get hj]
theorem ltL {n j : Nat} {f : Nat → Value} (hn : n = 16 ∨ n = 32) (hj : j < n) : j.toInt32.toNatClampNeg < (tab n f).length := by rw [(ix (lt31 hn hj)).1, tab_len]; exact hj
theorem nng {n j : Nat} (hn : n = 16 ∨ n = 32) (hj : j < n) : ¬ (j.toInt32 < 0) := (ix (lt31 hn hj)).2
theorem setZ {n j : Nat} {H : Nat → Bool} (hn : n = 16 ∨ n = 32) (hj : j < n) : (tH n H).set j.toInt32.toNatClampNeg (.int 1) = tH n (fs H j true) := by
  rw [(ix (lt31 hn hj)).1, tH, tab_set, tH]
  congr 1; funext i; unfold fs; split <;> rfl
theorem setK {n j : Nat} {K : Nat → Int32} {k : Int32} (hn : n = 16 ∨ n = 32) (hj : j < n) : (tK n K).set j.toInt32.toNatClampNeg (.int k) = tK n (fs K j k) := by
  rw [(ix (lt31 hn hj)).1, tK, tab_set, tK]
  congr 1; funext i; unfold fs; split <;> rfl
theorem setV {n j : Nat} {V : Nat → Value} {v : Value} (hn : n = 16 ∨ n = 32) (hj : j < n) : (tab n V).set j.toInt32.toNatClampNeg v = tab n (fs V j v) := by rw [(ix (lt31 hn hj)).1, tab_set]
theorem sucI (z : Nat) : z.toInt32 + 1 = (z + 1).toInt32 := (Int32.ofNat_add z 1).symm
theorem sz_le {n z : Nat} (hn : n = 16 ∨ n = 32) (hz : 2 * z ≤ n) : ¬ (n.toInt32 < (2 : Int32) * z.toInt32) := by
  have h : z < 17 := by rcases hn with rfl | rfl <;> omega
  rcases hn with rfl | rfl
  · have : ∀ z, z < 17 → 2 * z ≤ 16 → ¬ ((16 : Nat).toInt32 < (2 : Int32) * z.toInt32) := by decide +kernel
    exact this z h hz
  · have : ∀ z, z < 17 → 2 * z ≤ 32 → ¬ ((32 : Nat).toInt32 < (2 : Int32) * z.toInt32) := by decide +kernel
    exact this z h hz
theorem lt16 {i : Nat} (h : i < 16) : i.toInt32 < (16 : Int32) := by
  have : ∀ i, i < 16 → i.toInt32 < (16 : Int32) := by decide +kernel
  exact this i h
def ICls : String := "java/lang/Integer"
abbrev oI (q : Int32) : Pc := .inl ("java/lang/Integer", [("java/lang/Integer", "value", "I", .int q)])
def VOK (cs : List (Addr × Pc)) (v : Value) : Prop := v = .null ∨ ∃ b q, v = .ref b ∧ (b, oI q) ∈ cs
theorem VOK.ref {cs : List (Addr × Pc)} {v : Value} (h : VOK cs v) : v.isRef = true := by rcases h with rfl | ⟨b, q, rfl, -⟩ <;> rfl
theorem VOK.mono {cs cs' : List (Addr × Pc)} {v : Value} (h : VOK cs v) (s : ∀ q ∈ cs, q ∈ cs') : VOK cs' v := by rcases h with rfl | ⟨b, q, rfl, m⟩; exact Or.inl rfl; exact Or.inr ⟨b, q, rfl, s _ m⟩
theorem VOK.fs {cs : List (Addr × Pc)} {V : Nat → Value} {v : Value} {j : Nat} (hV : ∀ i, VOK cs (V i)) (hv : VOK cs v) : ∀ i, VOK cs (fs V j v i) := fun i => by unfold Own.fs; split; exact hv; exact hV i
theorem VOK.ins {Z : State} {h : Heap} {cs tl : List (Addr × Pc)} {b : Addr} {q : Int32} (H : HS Z h cs) (s : ∀ q ∈ tl, q ∈ cs) (m : (b, oI q) ∈ tl) : Exa Z h b "java/lang/Integer" ∧ Fld Z h b "java/lang/Integer" "value" "I" (.int q) := by
  have g := (H.2.1 _ (s _ m)).2
  exact ⟨g.1, g.2 _ (List.mem_cons_self ..)⟩
theorem VOK.sto {Z : State} {h : Heap} {a0 : Array Value} {cs tl : List (Addr × Pc)} {a : Addr} {i : Nat} {ty : FieldType} {k : ClassId} {vs : List Value} {v : Value} {C : String} (H : HS Z h cs) (hi : cs[i]? = some (a, .inr (ty, k, vs))) (O : Ovr Z k C) (s : ∀ q ∈ tl, q ∈ cs) (hv : VOK tl v) (wc : (Jvm.Cond.castable "java/lang/Integer" C).before a0 Z = true) : Sto Z h a v := by
  rcases hv with rfl | ⟨b, q, rfl, m⟩
  · exact Or.inl rfl
  · exact H.sto hi O (Ins.of_exa (VOK.ins H s m).1 wc)
def gv (m : Int32 → Option Value) (k : Int32) : Value := match m k with | some v => v | none => .null
theorem gv_some {m : Int32 → Option Value} {k : Int32} {v : Value} (h : m k = some v) : gv m k = v := by unfold gv; rw [h]
theorem gv_none {m : Int32 → Option Value} {k : Int32} (h : m k = none) : gv m k = .null := by unfold gv; rw [h]
theorem st6 {a b c d : Value} {i v : Int32} {s : Slot} (h : One s) : storeLocals #[.val a, .val b, .val c, .val d, .val (.int i), s] 5 (.int v) = some #[.val a, .val b, .val c, .val d, .val (.int i), .val (.int v)] := by
  rcases h with rfl | ⟨w, rfl, hw⟩
  · rfl
  · cases w <;> first | rfl | (simp [Value.category] at hw)
section Priv
variable {l : Launch} {Z : State} {R : Room} {K : Ctx} {Q : Option Value → Heap → Prop} {h : Heap} {cc ss pc : Nat} {ls : Array Slot} {st : List Value} {y : MethodName} {code : ByteArray} {maxL : Nat} {ret : Option FieldType} {a0 : Array Value} {ts : List Jvm.Cond}
/-- a private method, where the sheet bears no 'selects' for it -/
theorem W.callQ (ok : Ok Z K y code maxL ret) (tb : Tb Z a0 ts) {idx kk : Nat} {z : MethodName} {code' : ByteArray} {maxL' : Nat} {ret' : Option FieldType} {rm : Room} {Q' : Option Value → Heap → Prop} {ps : List FieldType} {rt : Option FieldType} {a : Addr} {C : String} {argsL rest : List Value}
    (i1 i2 i3 i4 i5 i6 : Nat) (w1 : ts[i1]? = some (.methodLink y.cls idx z)) (w2 : ts[i2]? = some (.instanceMethod z)) (w3 : ts[i3]? = some (.instantiable z.cls kk)) (w4 : ts[i4]? = some (.privateMethod z)) (w5 : ts[i5]? = some (.code z code' maxL' ret')) (w6 : ts[i6]? = some (.initialized z.cls))
    (E : Exa Z h a C)
    (hd : decode code pc = .ok (.invokevirtual idx, 3)) (hpd : parseMethodDescriptor z.desc = some ⟨ps, rt⟩) (con : Con l Z z code' maxL' ret' rm (.ref a :: argsL).toArray h Q') (wgt cc' ss' pc' : Nat)
    (H : ∀ v h', Q' v h' → W l Z R K Q h' cc' ss' pc' ls (v.toList ++ rest))
    (hm : z.cls ≠ "java/lang/invoke/MethodHandle" ∧ z.cls ≠ "java/lang/invoke/VarHandle" := by decide) (hlen : argsL.length = ps.length := by rfl) (hst : st = argsL.reverse ++ .ref a :: rest := by rfl) (hW : (rest.map fun v => v.category).sum ≤ wgt := by exact Nat.le_refl _)
    (hf : rm.frames + 1 ≤ R.frames := by decide) (hl : wgt + (maxL' + 11) + rm.locals ≤ R.locals := by decide) (hc : cc' ≤ R.cells := by decide) (hs : ss' ≤ R.slots := by decide) (hc' : cc + rm.cells = cc' := by rfl) (hs' : ss + rm.slots = ss' := by rfl) (hsz : ls.size = maxL := by rfl) (hp : pc + 3 = pc' := by rfl) :
    W l Z R K Q h cc ss pc ls st := by
  subst hst hc' hs' hp
  intro T L X N e
  obtain ⟨cq, q1, q2⟩ := E.cell
  have hpriv := Cond.privateMethod_at (mvP ok.2.1 (tb _ (List.mem_of_getElem? w4)) (args := #[]))
  obtain ⟨ci, ki, u1, u2, u3, u4, -⟩ := Cond.instantiable_spec (mvT (args := K.args) ok.2.1 (tb _ (List.mem_of_getElem? w3)))
  have hsel := selects_self_of_private (args := K.args) u1 u2 (by simp only [Bool.or_eq_false_iff] at u4; exact u4.1) hpriv (mvT ok.2.1 (tb _ (List.mem_of_getElem? w2))) hm
  obtain ⟨v, _, ⟨T', L', k', n'⟩, -, X', ⟨Lc, hQ, l1, l2, l3⟩, stp⟩ := X.privateBack ok.1 (y := z) ok.2.2.2.2.1 (mvT ok.2.1 (tb _ (List.mem_of_getElem? w1))) (mvT ok.2.1 (tb _ (List.mem_of_getElem? w2))) hsel hpriv (mvT ok.2.1 (tb _ (List.mem_of_getElem? w5))) hm
    (backOf (W := wgt) (Q := fun v h L => Q' v h ∧ Fr Z.heap.size L) (con []) ok.2.1 (tb _ (List.mem_of_getElem? w5)) (tb _ (List.mem_of_getElem? w6)) hf hl) (g := mkF K.m pc ls (argsL.reverse ++ .ref a :: rest)) rfl (hsz.trans ok.2.2.2.1.symm) (Steps.refl _) (a := a) (by rw [e]; exact q1) q2 (argsL := argsL) (rest := rest) (lenOf hpd hlen) rfl (by simpa using hW) (hb ok.2.2.1 hd) (fun _ _ => ⟨rfl, e, hc, hs⟩)
  dsimp only [Pt.U, Pt.locs, Pt.cells, Pt.slots] at X' l1 l2 l3 stp hQ
  subst l1 l2 l3
  exact Ends.step (fun t k => stp.trans k) (H v T'.heap hQ.1 T' _ X' (N.app hQ.2) rfl)
end Priv
end Jvm.Own
namespace Jvm.Own
open Sem ClassFile Op Lib Jvm.Stand Jvm.Free Jvm.LawKit Jvm.RoadKit
theorem st_int {Z : State} {args : Array Value} {C n d : String} {i : Int32} (w : (Jvm.Cond.eq (.static C n d) (.int i)).value args Z none Z [] = some true) (hi : (Jvm.Cond.initializedFor C n d).before args Z = true ∨ ((Jvm.Cond.initialized C).before args Z = true ∧ (Jvm.Cond.laysStatic C n d).before args Z = true)) : Sta Z Z.heap C n d (.int i) := by
  refine Sta.start ?_ hi
  cases hq : (Term.static C n d).eval args Z none [] Z with
  | none => simp [Cond.value, hq] at w
  | some v =>
    cases v <;> simp [Cond.value, hq, Term.int_eval] at w
    rw [w]
end Jvm.Own
namespace Jvm.Pilot.@@N@@
open Jvm Jvm.ClassFile Sem Op Lib Jvm.Free Jvm.Stand Jvm.LawKit Jvm.RoadKit Bundle Jvm.Pilot.@@N@@.Jvm.D
theorem d_prog_7_method_5_0 : decode prog_7_method_5_code 0 = .ok (.aload_n 0, 1) := by decide +kernel
theorem d_prog_7_method_5_1 : decode prog_7_method_5_code 1 = .ok (.getfield 9, 3) := by decide +kernel
theorem d_prog_7_method_5_4 : decode prog_7_method_5_code 4 = .ok (.arraylength, 1) := by decide +kernel
theorem d_prog_7_method_5_5 : decode prog_7_method_5_code 5 = .ok (.iconst 1, 1) := by decide +kernel
theorem d_prog_7_method_5_6 : decode prog_7_method_5_code 6 = .ok (.isub, 1) := by decide +kernel
theorem d_prog_7_method_5_7 : decode prog_7_method_5_code 7 = .ok (.istore_n 2, 1) := by decide +kernel
theorem d_prog_7_method_5_8 : decode prog_7_method_5_code 8 = .ok (.iload_n 1, 1) := by decide +kernel
theorem d_prog_7_method_5_9 : decode prog_7_method_5_code 9 = .ok (.ldc 32, 2) := by decide +kernel
theorem d_prog_7_method_5_11 : decode prog_7_method_5_code 11 = .ok (.imul, 1) := by decide +kernel
theorem d_prog_7_method_5_12 : decode prog_7_method_5_code 12 = .ok (.istore_n 3, 1) := by decide +kernel
theorem d_prog_7_method_5_13 : decode prog_7_method_5_code 13 = .ok (.iload_n 3, 1) := by decide +kernel
theorem d_prog_7_method_5_14 : decode prog_7_method_5_code 14 = .ok (.iload_n 3, 1) := by decide +kernel
theorem d_prog_7_method_5_15 : decode prog_7_method_5_code 15 = .ok (.bipush 16, 2) := by decide +kernel
theorem d_prog_7_method_5_17 : decode prog_7_method_5_code 17 = .ok (.iushr, 1) := by decide +kernel
theorem d_prog_7_method_5_18 : decode prog_7_method_5_code 18 = .ok (.ixor, 1) := by decide +kernel
theorem d_prog_7_method_5_19 : decode prog_7_method_5_code 19 = .ok (.iload_n 2, 1) := by decide +kernel
theorem d_prog_7_method_5_20 : decode prog_7_method_5_code 20 = .ok (.iand, 1) := by decide +kernel
theorem d_prog_7_method_5_21 : decode prog_7_method_5_code 21 = .ok (.istore 4, 2) := by decide +kernel
theorem d_prog_7_method_5_23 : decode prog_7_method_5_code 23 = .ok (.aload_n 0, 1) := by decide +kernel
theorem d_prog_7_method_5_24 : decode prog_7_method_5_code 24 = .ok (.getfield 17, 3) := by decide +kernel
theorem d_prog_7_method_5_27 : decode prog_7_method_5_code 27 = .ok (.iload 4, 2) := by decide +kernel
theorem d_prog_7_method_5_29 : decode prog_7_method_5_code 29 = .ok (.baload, 1) := by decide +kernel
theorem d_prog_7_method_5_30 : decode prog_7_method_5_code 30 = .ok (.ifCond .eq 25, 3) := by decide +kernel
theorem d_prog_7_method_5_55 : decode prog_7_method_5_code 55 = .ok (.iload 4, 2) := by decide +kernel
theorem d_prog_7_method_5_57 : decode prog_7_method_5_code 57 = .ok (.ireturn, 1) := by decide +kernel
theorem d_prog_7_method_5_33 : decode prog_7_method_5_code 33 = .ok (.aload_n 0, 1) := by decide +kernel
theorem d_prog_7_method_5_34 : decode prog_7_method_5_code 34 = .ok (.getfield 9, 3) := by decide +kernel
theorem d_prog_7_method_5_37 : decode prog_7_method_5_code 37 = .ok (.iload 4, 2) := by decide +kernel
theorem d_prog_7_method_5_39 : decode prog_7_method_5_code 39 = .ok (.iaload, 1) := by decide +kernel
theorem d_prog_7_method_5_40 : decode prog_7_method_5_code 40 = .ok (.iload_n 1, 1) := by decide +kernel
theorem d_prog_7_method_5_41 : decode prog_7_method_5_code 41 = .ok (.if_icmp .eq 14, 3) := by decide +kernel
theorem d_prog_7_method_5_44 : decode prog_7_method_5_code 44 = .ok (.iload 4, 2) := by decide +kernel
theorem d_prog_7_method_5_46 : decode prog_7_method_5_code 46 = .ok (.iconst 1, 1) := by decide +kernel
theorem d_prog_7_method_5_47 : decode prog_7_method_5_code 47 = .ok (.iadd, 1) := by decide +kernel
theorem d_prog_7_method_5_48 : decode prog_7_method_5_code 48 = .ok (.iload_n 2, 1) := by decide +kernel
theorem d_prog_7_method_5_49 : decode prog_7_method_5_code 49 = .ok (.iand, 1) := by decide +kernel
theorem d_prog_7_method_5_50 : decode prog_7_method_5_code 50 = .ok (.istore 4, 2) := by decide +kernel
theorem d_prog_7_method_5_52 : decode prog_7_method_5_code 52 = .ok (.goto (-29), 3) := by decide +kernel
theorem d_prog_7_method_6_0 : decode prog_7_method_6_code 0 = .ok (.aload_n 0, 1) := by decide +kernel
theorem d_prog_7_method_6_1 : decode prog_7_method_6_code 1 = .ok (.getfield 9, 3) := by decide +kernel
theorem d_prog_7_method_6_4 : decode prog_7_method_6_code 4 = .ok (.astore_n 1, 1) := by decide +kernel
theorem d_prog_7_method_6_5 : decode prog_7_method_6_code 5 = .ok (.aload_n 0, 1) := by decide +kernel
theorem d_prog_7_method_6_6 : decode prog_7_method_6_code 6 = .ok (.getfield 13, 3) := by decide +kernel
theorem d_prog_7_method_6_9 : decode prog_7_method_6_code 9 = .ok (.astore_n 2, 1) := by decide +kernel
theorem d_prog_7_method_6_10 : decode prog_7_method_6_code 10 = .ok (.aload_n 0, 1) := by decide +kernel
theorem d_prog_7_method_6_11 : decode prog_7_method_6_code 11 = .ok (.getfield 17, 3) := by decide +kernel
theorem d_prog_7_method_6_14 : decode prog_7_method_6_code 14 = .ok (.astore_n 3, 1) := by decide +kernel
theorem d_prog_7_method_6_15 : decode prog_7_method_6_code 15 = .ok (.aload_n 0, 1) := by decide +kernel
theorem d_prog_7_method_6_16 : decode prog_7_method_6_code 16 = .ok (.iconst 2, 1) := by decide +kernel
theorem d_prog_7_method_6_17 : decode prog_7_method_6_code 17 = .ok (.aload_n 1, 1) := by decide +kernel
theorem d_prog_7_method_6_18 : decode prog_7_method_6_code 18 = .ok (.arraylength, 1) := by decide +kernel
theorem d_prog_7_method_6_19 : decode prog_7_method_6_code 19 = .ok (.imul, 1) := by decide +kernel
theorem d_prog_7_method_6_20 : decode prog_7_method_6_code 20 = .ok (.newarray .int, 2) := by decide +kernel
theorem d_prog_7_method_6_22 : decode prog_7_method_6_code 22 = .ok (.putfield 9, 3) := by decide +kernel
theorem d_prog_7_method_6_25 : decode prog_7_method_6_code 25 = .ok (.aload_n 0, 1) := by decide +kernel
theorem d_prog_7_method_6_26 : decode prog_7_method_6_code 26 = .ok (.aload_n 0, 1) := by decide +kernel
theorem d_prog_7_method_6_27 : decode prog_7_method_6_code 27 = .ok (.getfield 9, 3) := by decide +kernel
theorem d_prog_7_method_6_30 : decode prog_7_method_6_code 30 = .ok (.arraylength, 1) := by decide +kernel
theorem d_prog_7_method_6_31 : decode prog_7_method_6_code 31 = .ok (.anewarray 2, 3) := by decide +kernel
theorem d_prog_7_method_6_34 : decode prog_7_method_6_code 34 = .ok (.putfield 13, 3) := by decide +kernel
theorem d_prog_7_method_6_37 : decode prog_7_method_6_code 37 = .ok (.aload_n 0, 1) := by decide +kernel
theorem d_prog_7_method_6_38 : decode prog_7_method_6_code 38 = .ok (.aload_n 0, 1) := by decide +kernel
theorem d_prog_7_method_6_39 : decode prog_7_method_6_code 39 = .ok (.getfield 9, 3) := by decide +kernel
theorem d_prog_7_method_6_42 : decode prog_7_method_6_code 42 = .ok (.arraylength, 1) := by decide +kernel
theorem d_prog_7_method_6_43 : decode prog_7_method_6_code 43 = .ok (.newarray .boolean, 2) := by decide +kernel
theorem d_prog_7_method_6_45 : decode prog_7_method_6_code 45 = .ok (.putfield 17, 3) := by decide +kernel
theorem d_prog_7_method_6_48 : decode prog_7_method_6_code 48 = .ok (.iconst 0, 1) := by decide +kernel
theorem d_prog_7_method_6_49 : decode prog_7_method_6_code 49 = .ok (.istore 4, 2) := by decide +kernel
theorem d_prog_7_method_6_51 : decode prog_7_method_6_code 51 = .ok (.iload 4, 2) := by decide +kernel
theorem d_prog_7_method_6_53 : decode prog_7_method_6_code 53 = .ok (.aload_n 1, 1) := by decide +kernel
theorem d_prog_7_method_6_54 : decode prog_7_method_6_code 54 = .ok (.arraylength, 1) := by decide +kernel
theorem d_prog_7_method_6_55 : decode prog_7_method_6_code 55 = .ok (.if_icmp .ge 56, 3) := by decide +kernel
theorem d_prog_7_method_6_111 : decode prog_7_method_6_code 111 = .ok (.return_, 1) := by decide +kernel
theorem d_prog_7_method_6_58 : decode prog_7_method_6_code 58 = .ok (.aload_n 3, 1) := by decide +kernel
theorem d_prog_7_method_6_59 : decode prog_7_method_6_code 59 = .ok (.iload 4, 2) := by decide +kernel
theorem d_prog_7_method_6_61 : decode prog_7_method_6_code 61 = .ok (.baload, 1) := by decide +kernel
theorem d_prog_7_method_6_62 : decode prog_7_method_6_code 62 = .ok (.ifCond .eq 43, 3) := by decide +kernel
theorem d_prog_7_method_6_105 : decode prog_7_method_6_code 105 = .ok (.iinc 4 1, 3) := by decide +kernel
theorem d_prog_7_method_6_108 : decode prog_7_method_6_code 108 = .ok (.goto (-57), 3) := by decide +kernel
theorem d_prog_7_method_6_65 : decode prog_7_method_6_code 65 = .ok (.aload_n 0, 1) := by decide +kernel
theorem d_prog_7_method_6_66 : decode prog_7_method_6_code 66 = .ok (.aload_n 1, 1) := by decide +kernel
theorem d_prog_7_method_6_67 : decode prog_7_method_6_code 67 = .ok (.iload 4, 2) := by decide +kernel
theorem d_prog_7_method_6_69 : decode prog_7_method_6_code 69 = .ok (.iaload, 1) := by decide +kernel
theorem d_prog_7_method_6_70 : decode prog_7_method_6_code 70 = .ok (.invokevirtual 21, 3) := by decide +kernel
theorem pd_0 : parseMethodDescriptor "(I)I" = some ⟨[.int], some .int⟩ := by decide +kernel
theorem d_prog_7_method_6_73 : decode prog_7_method_6_code 73 = .ok (.istore 5, 2) := by decide +kernel
theorem d_prog_7_method_6_75 : decode prog_7_method_6_code 75 = .ok (.aload_n 0, 1) := by decide +kernel
theorem d_prog_7_method_6_76 : decode prog_7_method_6_code 76 = .ok (.getfield 17, 3) := by decide +kernel
theorem d_prog_7_method_6_79 : decode prog_7_method_6_code 79 = .ok (.iload 5, 2) := by decide +kernel
theorem d_prog_7_method_6_81 : decode prog_7_method_6_code 81 = .ok (.iconst 1, 1) := by decide +kernel
theorem d_prog_7_method_6_82 : decode prog_7_method_6_code 82 = .ok (.bastore, 1) := by decide +kernel
theorem d_prog_7_method_6_83 : decode prog_7_method_6_code 83 = .ok (.aload_n 0, 1) := by decide +kernel
theorem d_prog_7_method_6_84 : decode prog_7_method_6_code 84 = .ok (.getfield 9, 3) := by decide +kernel
theorem d_prog_7_method_6_87 : decode prog_7_method_6_code 87 = .ok (.iload 5, 2) := by decide +kernel
theorem d_prog_7_method_6_89 : decode prog_7_method_6_code 89 = .ok (.aload_n 1, 1) := by decide +kernel
theorem d_prog_7_method_6_90 : decode prog_7_method_6_code 90 = .ok (.iload 4, 2) := by decide +kernel
theorem d_prog_7_method_6_92 : decode prog_7_method_6_code 92 = .ok (.iaload, 1) := by decide +kernel
theorem d_prog_7_method_6_93 : decode prog_7_method_6_code 93 = .ok (.iastore, 1) := by decide +kernel
theorem d_prog_7_method_6_94 : decode prog_7_method_6_code 94 = .ok (.aload_n 0, 1) := by decide +kernel
theorem d_prog_7_method_6_95 : decode prog_7_method_6_code 95 = .ok (.getfield 13, 3) := by decide +kernel
theorem d_prog_7_method_6_98 : decode prog_7_method_6_code 98 = .ok (.iload 5, 2) := by decide +kernel
theorem d_prog_7_method_6_100 : decode prog_7_method_6_code 100 = .ok (.aload_n 2, 1) := by decide +kernel
theorem d_prog_7_method_6_101 : decode prog_7_method_6_code 101 = .ok (.iload 4, 2) := by decide +kernel
theorem d_prog_7_method_6_103 : decode prog_7_method_6_code 103 = .ok (.aaload, 1) := by decide +kernel
theorem d_prog_7_method_6_104 : decode prog_7_method_6_code 104 = .ok (.aastore, 1) := by decide +kernel
theorem d_prog_7_method_4_0 : decode prog_7_method_4_code 0 = .ok (.aload_n 0, 1) := by decide +kernel
theorem d_prog_7_method_4_1 : decode prog_7_method_4_code 1 = .ok (.iload_n 1, 1) := by decide +kernel
theorem d_prog_7_method_4_2 : decode prog_7_method_4_code 2 = .ok (.invokevirtual 21, 3) := by decide +kernel
theorem d_prog_7_method_4_5 : decode prog_7_method_4_code 5 = .ok (.istore_n 3, 1) := by decide +kernel
theorem d_prog_7_method_4_6 : decode prog_7_method_4_code 6 = .ok (.aload_n 0, 1) := by decide +kernel
theorem d_prog_7_method_4_7 : decode prog_7_method_4_code 7 = .ok (.getfield 17, 3) := by decide +kernel
theorem d_prog_7_method_4_10 : decode prog_7_method_4_code 10 = .ok (.iload_n 3, 1) := by decide +kernel
theorem d_prog_7_method_4_11 : decode prog_7_method_4_code 11 = .ok (.baload, 1) := by decide +kernel
theorem d_prog_7_method_4_12 : decode prog_7_method_4_code 12 = .ok (.ifCond .ne 27, 3) := by decide +kernel
theorem d_prog_7_method_4_15 : decode prog_7_method_4_code 15 = .ok (.aload_n 0, 1) := by decide +kernel
theorem d_prog_7_method_4_16 : decode prog_7_method_4_code 16 = .ok (.getfield 17, 3) := by decide +kernel
theorem d_prog_7_method_4_19 : decode prog_7_method_4_code 19 = .ok (.iload_n 3, 1) := by decide +kernel
theorem d_prog_7_method_4_20 : decode prog_7_method_4_code 20 = .ok (.iconst 1, 1) := by decide +kernel
theorem d_prog_7_method_4_21 : decode prog_7_method_4_code 21 = .ok (.bastore, 1) := by decide +kernel
theorem d_prog_7_method_4_22 : decode prog_7_method_4_code 22 = .ok (.aload_n 0, 1) := by decide +kernel
theorem d_prog_7_method_4_23 : decode prog_7_method_4_code 23 = .ok (.getfield 9, 3) := by decide +kernel
theorem d_prog_7_method_4_26 : decode prog_7_method_4_code 26 = .ok (.iload_n 3, 1) := by decide +kernel
theorem d_prog_7_method_4_27 : decode prog_7_method_4_code 27 = .ok (.iload_n 1, 1) := by decide +kernel
theorem d_prog_7_method_4_28 : decode prog_7_method_4_code 28 = .ok (.iastore, 1) := by decide +kernel
theorem d_prog_7_method_4_29 : decode prog_7_method_4_code 29 = .ok (.aload_n 0, 1) := by decide +kernel
theorem d_prog_7_method_4_30 : decode prog_7_method_4_code 30 = .ok (.dup, 1) := by decide +kernel
theorem d_prog_7_method_4_31 : decode prog_7_method_4_code 31 = .ok (.getfield 25, 3) := by decide +kernel
theorem d_prog_7_method_4_34 : decode prog_7_method_4_code 34 = .ok (.iconst 1, 1) := by decide +kernel
theorem d_prog_7_method_4_35 : decode prog_7_method_4_code 35 = .ok (.iadd, 1) := by decide +kernel
theorem d_prog_7_method_4_36 : decode prog_7_method_4_code 36 = .ok (.putfield 25, 3) := by decide +kernel
theorem d_prog_7_method_4_39 : decode prog_7_method_4_code 39 = .ok (.aload_n 0, 1) := by decide +kernel
theorem d_prog_7_method_4_40 : decode prog_7_method_4_code 40 = .ok (.getfield 13, 3) := by decide +kernel
theorem d_prog_7_method_4_43 : decode prog_7_method_4_code 43 = .ok (.iload_n 3, 1) := by decide +kernel
theorem d_prog_7_method_4_44 : decode prog_7_method_4_code 44 = .ok (.aload_n 2, 1) := by decide +kernel
theorem d_prog_7_method_4_45 : decode prog_7_method_4_code 45 = .ok (.aastore, 1) := by decide +kernel
theorem d_prog_7_method_4_46 : decode prog_7_method_4_code 46 = .ok (.iconst 2, 1) := by decide +kernel
theorem d_prog_7_method_4_47 : decode prog_7_method_4_code 47 = .ok (.aload_n 0, 1) := by decide +kernel
theorem d_prog_7_method_4_48 : decode prog_7_method_4_code 48 = .ok (.getfield 25, 3) := by decide +kernel
theorem d_prog_7_method_4_51 : decode prog_7_method_4_code 51 = .ok (.imul, 1) := by decide +kernel
theorem d_prog_7_method_4_52 : decode prog_7_method_4_code 52 = .ok (.aload_n 0, 1) := by decide +kernel
theorem d_prog_7_method_4_53 : decode prog_7_method_4_code 53 = .ok (.getfield 9, 3) := by decide +kernel
theorem d_prog_7_method_4_56 : decode prog_7_method_4_code 56 = .ok (.arraylength, 1) := by decide +kernel
theorem d_prog_7_method_4_57 : decode prog_7_method_4_code 57 = .ok (.if_icmp .le 7, 3) := by decide +kernel
theorem d_prog_7_method_4_64 : decode prog_7_method_4_code 64 = .ok (.return_, 1) := by decide +kernel
theorem d_prog_7_method_4_60 : decode prog_7_method_4_code 60 = .ok (.aload_n 0, 1) := by decide +kernel
theorem d_prog_7_method_4_61 : decode prog_7_method_4_code 61 = .ok (.invokevirtual 29, 3) := by decide +kernel
theorem pd_1 : parseMethodDescriptor "()V" = some ⟨[], none⟩ := by decide +kernel
theorem d_prog_7_method_2_0 : decode prog_7_method_2_code 0 = .ok (.aload_n 0, 1) := by decide +kernel
theorem d_prog_7_method_2_1 : decode prog_7_method_2_code 1 = .ok (.iload_n 1, 1) := by decide +kernel
theorem d_prog_7_method_2_2 : decode prog_7_method_2_code 2 = .ok (.invokevirtual 21, 3) := by decide +kernel
theorem d_prog_7_method_2_5 : decode prog_7_method_2_code 5 = .ok (.istore_n 2, 1) := by decide +kernel
theorem d_prog_7_method_2_6 : decode prog_7_method_2_code 6 = .ok (.aload_n 0, 1) := by decide +kernel
theorem d_prog_7_method_2_7 : decode prog_7_method_2_code 7 = .ok (.getfield 17, 3) := by decide +kernel
theorem d_prog_7_method_2_10 : decode prog_7_method_2_code 10 = .ok (.iload_n 2, 1) := by decide +kernel
theorem d_prog_7_method_2_11 : decode prog_7_method_2_code 11 = .ok (.baload, 1) := by decide +kernel
theorem d_prog_7_method_2_12 : decode prog_7_method_2_code 12 = .ok (.ifCond .eq 12, 3) := by decide +kernel
theorem d_prog_7_method_2_24 : decode prog_7_method_2_code 24 = .ok (.aconst_null, 1) := by decide +kernel
theorem d_prog_7_method_2_25 : decode prog_7_method_2_code 25 = .ok (.areturn, 1) := by decide +kernel
theorem d_prog_7_method_2_15 : decode prog_7_method_2_code 15 = .ok (.aload_n 0, 1) := by decide +kernel
theorem d_prog_7_method_2_16 : decode prog_7_method_2_code 16 = .ok (.getfield 13, 3) := by decide +kernel
theorem d_prog_7_method_2_19 : decode prog_7_method_2_code 19 = .ok (.iload_n 2, 1) := by decide +kernel
theorem d_prog_7_method_2_20 : decode prog_7_method_2_code 20 = .ok (.aaload, 1) := by decide +kernel
theorem d_prog_7_method_2_21 : decode prog_7_method_2_code 21 = .ok (.goto 4, 3) := by decide +kernel
theorem d_prog_7_method_3_0 : decode prog_7_method_3_code 0 = .ok (.aload_n 0, 1) := by decide +kernel
theorem d_prog_7_method_3_1 : decode prog_7_method_3_code 1 = .ok (.getfield 17, 3) := by decide +kernel
theorem d_prog_7_method_3_4 : decode prog_7_method_3_code 4 = .ok (.aload_n 0, 1) := by decide +kernel
theorem d_prog_7_method_3_5 : decode prog_7_method_3_code 5 = .ok (.iload_n 1, 1) := by decide +kernel
theorem d_prog_7_method_3_6 : decode prog_7_method_3_code 6 = .ok (.invokevirtual 21, 3) := by decide +kernel
theorem d_prog_7_method_3_9 : decode prog_7_method_3_code 9 = .ok (.baload, 1) := by decide +kernel
theorem d_prog_7_method_3_10 : decode prog_7_method_3_code 10 = .ok (.ireturn, 1) := by decide +kernel
theorem d_prog_7_method_1_0 : decode prog_7_method_1_code 0 = .ok (.aload_n 0, 1) := by decide +kernel
theorem d_prog_7_method_1_1 : decode prog_7_method_1_code 1 = .ok (.invokespecial 1, 3) := by decide +kernel
theorem d_prog_7_method_1_4 : decode prog_7_method_1_code 4 = .ok (.aload_n 0, 1) := by decide +kernel
theorem d_prog_7_method_1_5 : decode prog_7_method_1_code 5 = .ok (.bipush 16, 2) := by decide +kernel
theorem d_prog_7_method_1_7 : decode prog_7_method_1_code 7 = .ok (.newarray .int, 2) := by decide +kernel
theorem d_prog_7_method_1_9 : decode prog_7_method_1_code 9 = .ok (.putfield 9, 3) := by decide +kernel
theorem d_prog_7_method_1_12 : decode prog_7_method_1_code 12 = .ok (.aload_n 0, 1) := by decide +kernel
theorem d_prog_7_method_1_13 : decode prog_7_method_1_code 13 = .ok (.bipush 16, 2) := by decide +kernel
theorem d_prog_7_method_1_15 : decode prog_7_method_1_code 15 = .ok (.anewarray 2, 3) := by decide +kernel
theorem d_prog_7_method_1_18 : decode prog_7_method_1_code 18 = .ok (.putfield 13, 3) := by decide +kernel
theorem d_prog_7_method_1_21 : decode prog_7_method_1_code 21 = .ok (.aload_n 0, 1) := by decide +kernel
theorem d_prog_7_method_1_22 : decode prog_7_method_1_code 22 = .ok (.bipush 16, 2) := by decide +kernel
theorem d_prog_7_method_1_24 : decode prog_7_method_1_code 24 = .ok (.newarray .boolean, 2) := by decide +kernel
theorem d_prog_7_method_1_26 : decode prog_7_method_1_code 26 = .ok (.putfield 17, 3) := by decide +kernel
theorem d_prog_7_method_1_29 : decode prog_7_method_1_code 29 = .ok (.return_, 1) := by decide +kernel
theorem d_jdk_18_method_1_0 : decode jdk_18_method_1_code 0 = .ok (.aload_n 0, 1) := by decide +kernel
theorem d_jdk_18_method_1_1 : decode jdk_18_method_1_code 1 = .ok (.invokespecial 1, 3) := by decide +kernel
theorem d_jdk_18_method_1_4 : decode jdk_18_method_1_code 4 = .ok (.return_, 1) := by decide +kernel
theorem d_jdk_33_method_23_0 : decode jdk_33_method_23_code 0 = .ok (.aload_n 0, 1) := by decide +kernel
theorem d_jdk_33_method_23_1 : decode jdk_33_method_23_code 1 = .ok (.invokespecial 202, 3) := by decide +kernel
theorem d_jdk_33_method_23_4 : decode jdk_33_method_23_code 4 = .ok (.aload_n 0, 1) := by decide +kernel
theorem d_jdk_33_method_23_5 : decode jdk_33_method_23_code 5 = .ok (.iload_n 1, 1) := by decide +kernel
theorem d_jdk_33_method_23_6 : decode jdk_33_method_23_code 6 = .ok (.putfield 205, 3) := by decide +kernel
theorem d_jdk_33_method_23_9 : decode jdk_33_method_23_code 9 = .ok (.return_, 1) := by decide +kernel
theorem d_jdk_33_method_22_0 : decode jdk_33_method_22_code 0 = .ok (.iload_n 0, 1) := by decide +kernel
theorem d_jdk_33_method_22_1 : decode jdk_33_method_22_code 1 = .ok (.bipush (-128), 2) := by decide +kernel
theorem d_jdk_33_method_22_3 : decode jdk_33_method_22_code 3 = .ok (.if_icmp .lt 20, 3) := by decide +kernel
theorem d_jdk_33_method_22_6 : decode jdk_33_method_22_code 6 = .ok (.iload_n 0, 1) := by decide +kernel
theorem d_jdk_33_method_22_7 : decode jdk_33_method_22_code 7 = .ok (.getstatic 191, 3) := by decide +kernel
theorem d_jdk_33_method_22_10 : decode jdk_33_method_22_code 10 = .ok (.if_icmp .gt 13, 3) := by decide +kernel
theorem d_jdk_33_method_22_23 : decode jdk_33_method_22_code 23 = .ok (.new 1, 3) := by decide +kernel
theorem d_jdk_33_method_22_26 : decode jdk_33_method_22_code 26 = .ok (.dup, 1) := by decide +kernel
theorem d_jdk_33_method_22_27 : decode jdk_33_method_22_code 27 = .ok (.iload_n 0, 1) := by decide +kernel
theorem d_jdk_33_method_22_28 : decode jdk_33_method_22_code 28 = .ok (.invokespecial 199, 3) := by decide +kernel
theorem pd_2 : parseMethodDescriptor "(I)V" = some ⟨[.int], none⟩ := by decide +kernel
theorem d_jdk_33_method_22_31 : decode jdk_33_method_22_code 31 = .ok (.areturn, 1) := by decide +kernel
theorem d_method_3_0 : decode method_3_code 0 = .ok (.iload_n 0, 1) := by decide +kernel
theorem d_method_3_1 : decode method_3_code 1 = .ok (.iconst 4, 1) := by decide +kernel
theorem d_method_3_2 : decode method_3_code 2 = .ok (.iload_n 1, 1) := by decide +kernel
theorem d_method_3_3 : decode method_3_code 3 = .ok (.iadd, 1) := by decide +kernel
theorem d_method_3_4 : decode method_3_code 4 = .ok (.iushr, 1) := by decide +kernel
theorem d_method_3_5 : decode method_3_code 5 = .ok (.iconst 1, 1) := by decide +kernel
theorem d_method_3_6 : decode method_3_code 6 = .ok (.iand, 1) := by decide +kernel
theorem d_method_3_7 : decode method_3_code 7 = .ok (.ifCond .eq 5, 3) := by decide +kernel
theorem d_method_3_12 : decode method_3_code 12 = .ok (.sipush 1000, 3) := by decide +kernel
theorem d_method_3_15 : decode method_3_code 15 = .ok (.iload_n 1, 1) := by decide +kernel
theorem d_method_3_16 : decode method_3_code 16 = .ok (.iadd, 1) := by decide +kernel
theorem d_method_3_17 : decode method_3_code 17 = .ok (.invokestatic 35, 3) := by decide +kernel
theorem pd_3 : parseMethodDescriptor "(I)Ljava/lang/Integer;" = some ⟨[.int], some (.object "java/lang/Integer")⟩ := by decide +kernel
theorem d_method_3_20 : decode method_3_code 20 = .ok (.areturn, 1) := by decide +kernel
theorem d_method_3_10 : decode method_3_code 10 = .ok (.aconst_null, 1) := by decide +kernel
theorem d_method_3_11 : decode method_3_code 11 = .ok (.areturn, 1) := by decide +kernel
theorem d_jdk_33_method_27_0 : decode jdk_33_method_27_code 0 = .ok (.aload_n 0, 1) := by decide +kernel
theorem d_jdk_33_method_27_1 : decode jdk_33_method_27_code 1 = .ok (.getfield 205, 3) := by decide +kernel
theorem d_jdk_33_method_27_4 : decode jdk_33_method_27_code 4 = .ok (.ireturn, 1) := by decide +kernel
theorem d_method_4_0 : decode method_4_code 0 = .ok (.aload_n 1, 1) := by decide +kernel
theorem d_method_4_1 : decode method_4_code 1 = .ok (.ifnonnull 13, 3) := by decide +kernel
theorem d_method_4_4 : decode method_4_code 4 = .ok (.aload_n 0, 1) := by decide +kernel
theorem d_method_4_5 : decode method_4_code 5 = .ok (.ifnonnull 7, 3) := by decide +kernel
theorem d_method_4_8 : decode method_4_code 8 = .ok (.iconst 1, 1) := by decide +kernel
theorem d_method_4_9 : decode method_4_code 9 = .ok (.goto 4, 3) := by decide +kernel
theorem d_method_4_13 : decode method_4_code 13 = .ok (.ireturn, 1) := by decide +kernel
theorem d_method_4_14 : decode method_4_code 14 = .ok (.aload_n 0, 1) := by decide +kernel
theorem d_method_4_15 : decode method_4_code 15 = .ok (.ifnull 18, 3) := by decide +kernel
theorem d_method_4_18 : decode method_4_code 18 = .ok (.aload_n 0, 1) := by decide +kernel
theorem d_method_4_19 : decode method_4_code 19 = .ok (.invokevirtual 39, 3) := by decide +kernel
theorem pd_4 : parseMethodDescriptor "()I" = some ⟨[], some .int⟩ := by decide +kernel
theorem d_method_4_22 : decode method_4_code 22 = .ok (.aload_n 1, 1) := by decide +kernel
theorem d_method_4_23 : decode method_4_code 23 = .ok (.invokevirtual 39, 3) := by decide +kernel
theorem d_method_4_26 : decode method_4_code 26 = .ok (.if_icmp .ne 7, 3) := by decide +kernel
theorem d_method_4_29 : decode method_4_code 29 = .ok (.iconst 1, 1) := by decide +kernel
theorem d_method_4_30 : decode method_4_code 30 = .ok (.goto 4, 3) := by decide +kernel
theorem d_method_4_34 : decode method_4_code 34 = .ok (.ireturn, 1) := by decide +kernel
theorem pd_5 : parseMethodDescriptor "(II)Ljava/lang/Integer;" = some ⟨[.int, .int], some (.object "java/lang/Integer")⟩ := by decide +kernel
theorem pd_6 : parseMethodDescriptor "(I)Ljava/lang/Object;" = some ⟨[.int], some (.object "java/lang/Object")⟩ := by decide +kernel
theorem pd_7 : parseMethodDescriptor "(I)Z" = some ⟨[.int], some .boolean⟩ := by decide +kernel
theorem pd_8 : parseMethodDescriptor "(Ljava/lang/Integer;Ljava/lang/Integer;)Z" = some ⟨[(.object "java/lang/Integer"), (.object "java/lang/Integer")], some .boolean⟩ := by decide +kernel
theorem pd_9 : parseMethodDescriptor "(ILjava/lang/Object;)V" = some ⟨[.int, (.object "java/lang/Object")], none⟩ := by decide +kernel
abbrev o_IT (f0 f1 f2 f3 : Value) : Own.Pc := .inl ("com/example/trellis/trellis/IntTable", [("com/example/trellis/trellis/IntTable", "keys", "[I", f0), ("com/example/trellis/trellis/IntTable", "values", "[Ljava/lang/Object;", f1), ("com/example/trellis/trellis/IntTable", "held", "[Z", f2), ("com/example/trellis/trellis/IntTable", "size", "I", f3)])
theorem nw_IT {Z : State} {a0 : Array Value} (tb : Own.Tb Z a0 tables_1) : Own.Nw Z a0 "com/example/trellis/trellis/IntTable" [("com/example/trellis/trellis/IntTable", "keys", "[I", .null), ("com/example/trellis/trellis/IntTable", "values", "[Ljava/lang/Object;", .null), ("com/example/trellis/trellis/IntTable", "held", "[Z", .null), ("com/example/trellis/trellis/IntTable", "size", "I", (.int (0 : Int32)))] := (Own.Nw.cons (Or.inl (tb _ (List.mem_of_getElem? (i := 39) rfl))) (ty := (.array .int)) (by decide) rfl (Own.Nw.cons (Or.inl (tb _ (List.mem_of_getElem? (i := 43) rfl))) (ty := (.array (.object "java/lang/Object"))) (by decide) rfl (Own.Nw.cons (Or.inl (tb _ (List.mem_of_getElem? (i := 46) rfl))) (ty := (.array .boolean)) (by decide) rfl (Own.Nw.cons (Or.inl (tb _ (List.mem_of_getElem? (i := 58) rfl))) (ty := .int) (by decide) rfl Own.Nw.nil))))
abbrev o_Int (f0 : Value) : Own.Pc := .inl ("java/lang/Integer", [("java/lang/Integer", "value", "I", f0)])
theorem nw_Int {Z : State} {a0 : Array Value} (tb : Own.Tb Z a0 tables_1) : Own.Nw Z a0 "java/lang/Integer" [("java/lang/Integer", "value", "I", (.int (0 : Int32)))] := (Own.Nw.cons (Or.inr (tb _ (List.mem_of_getElem? (i := 29) rfl))) (ty := .int) (by decide) rfl Own.Nw.nil)
set_option maxRecDepth 65536 in
set_option maxHeartbeats 4000000 in
theorem c_slot (l : Launch) {Z : State} {a0 : Array Value} (tb : Own.Tb Z a0 tables_1) (t : Addr) (ka : Addr) (va : Addr) (ha : Addr) (kk : ClassId) (kv : ClassId) (kh : ClassId) (n : Nat) (Kf : Nat → Int32) (Hf : Nat → Bool) (Vf : Nat → Value) (zI : Int32) (key : Int32) (D : Nat) (h : Heap) (cs : List (Addr × Own.Pc)) (H : Own.HS Z h ((t, o_IT (.ref ka) (.ref va) (.ref ha) (.int zI)) :: (ka, .inr (.int, kk, (Own.tK n Kf))) :: (ha, .inr (.boolean, kh, (Own.tH n Hf))) :: cs)) (hn : n = 16 ∨ n = 32) (F : Own.Fst n Kf Hf key D) :
    Own.Con l Z (⟨"com/example/trellis/trellis/IntTable", "slot", "(I)I"⟩ : MethodName) prog_7_method_5_code 5 (some .int) ({ frames := 0, cells := 0, slots := 0, locals := 0 } : Room) #[(.ref t), (.int key)] h (fun rr h' => rr = some (.int ((Own.pr n (Own.s0 n key) D).toInt32)) ∧ h = h') := by
  refine Own.Con.of (plainFor_of_name (by first | (simp [plainName, overriddenIn]; done) | decide +kernel)) #[.val (.ref t), .val (.int key), .unset, .unset, .unset] (fun m => by first | rfl | (simp [entryFrame, mkF, argsToLocals, Value.category, maxLocals]; done)) (fun K ok => ?_)
  refine Own.W.aloadN ok d_prog_7_method_5_0 1 rfl rfl ?_
  refine Own.W.getF ok tb 38 rfl Via.refl (H.fld (i := 0) (j := 0) rfl rfl) d_prog_7_method_5_1 4 ?_
  refine Own.W.alen ok H (i := 1) rfl d_prog_7_method_5_4 5 n.toInt32 Own.lenK ?_
  refine Own.W.iconst ok d_prog_7_method_5_5 6 (1 : Int32) rfl ?_
  refine Own.W.isubV ok d_prog_7_method_5_6 7 (Own.mk n) rfl ?_
  refine Own.W.istoreN ok d_prog_7_method_5_7 8 #[.val (.ref t), .val (.int key), .val (.int (Own.mk n)), .unset, .unset] rfl ?_
  refine Own.W.iloadN ok d_prog_7_method_5_8 9 rfl ?_
  refine Own.W.ldc ok tb 56 rfl d_prog_7_method_5_9 11 ?_
  refine Own.W.imul ok d_prog_7_method_5_11 12 ?_
  refine Own.W.istoreN ok d_prog_7_method_5_12 13 #[.val (.ref t), .val (.int key), .val (.int (Own.mk n)), .val (.int (key * (-1640531527 : Int32))), .unset] rfl ?_
  refine Own.W.iloadN ok d_prog_7_method_5_13 14 rfl ?_
  refine Own.W.iloadN ok d_prog_7_method_5_14 15 rfl ?_
  refine Own.W.bipush ok d_prog_7_method_5_15 17 (16 : Int32) rfl ?_
  refine Own.W.iushr ok d_prog_7_method_5_17 18 ?_
  refine Own.W.ixorV ok d_prog_7_method_5_18 19 (Own.hx key) rfl ?_
  refine Own.W.iloadN ok d_prog_7_method_5_19 20 rfl ?_
  refine Own.W.iandV ok d_prog_7_method_5_20 21 ((Own.pr n (Own.s0 n key) 0).toInt32) (Own.s0_spec hn key).1 ?_
  refine Own.W.istore ok d_prog_7_method_5_21 23 #[.val (.ref t), .val (.int key), .val (.int (Own.mk n)), .val (.int (key * (-1640531527 : Int32))), .val (.int ((Own.pr n (Own.s0 n key) 0).toInt32))] rfl ?_
  have L : ∀ mm d, d + mm = D → Own.W l Z ({ frames := 0, cells := 0, slots := 0, locals := 0 } : Room) K (fun rr h' => rr = some (.int ((Own.pr n (Own.s0 n key) D).toInt32)) ∧ h = h') h 0 0 23 #[.val (.ref t), .val (.int key), .val (.int (Own.mk n)), .val (.int (key * (-1640531527 : Int32))), .val (.int ((Own.pr n (Own.s0 n key) d).toInt32))] [] := by
    intro mm
    induction mm with
    | zero =>
      intro d hd
      have e : d = D := by omega
      rw [e]
      cases hb : Hf (Own.pr n (Own.s0 n key) D) with
      | false =>
        refine Own.W.aloadN ok d_prog_7_method_5_23 24 rfl rfl ?_
        refine Own.W.getF ok tb 45 rfl Via.refl (H.fld (i := 0) (j := 2) rfl rfl) d_prog_7_method_5_24 27 ?_
        refine Own.W.iload ok d_prog_7_method_5_27 29 rfl ?_
        refine Own.W.zald ok H (i := 2) rfl (Own.nng hn (Own.pr_lt hn _ _)) (show _ = some (Value.int (0 : Int32)) from Own.getZ hn (Own.pr_lt hn _ _) hb) d_prog_7_method_5_29 30 ?_
        refine Own.W.ifT ok d_prog_7_method_5_30 55 (by decide : (0 : Int32) = (0 : Int32)) ?_
        refine Own.W.iload ok d_prog_7_method_5_55 57 rfl ?_
        exact Own.W.iret ok d_prog_7_method_5_57 rfl ⟨rfl, rfl⟩
      | true =>
        have hk : Kf (Own.pr n (Own.s0 n key) D) = key := by
          rcases F.2.1 with q | q
          · rw [hb] at q; cases q
          · exact q
        refine Own.W.aloadN ok d_prog_7_method_5_23 24 rfl rfl ?_
        refine Own.W.getF ok tb 45 rfl Via.refl (H.fld (i := 0) (j := 2) rfl rfl) d_prog_7_method_5_24 27 ?_
        refine Own.W.iload ok d_prog_7_method_5_27 29 rfl ?_
        refine Own.W.zald ok H (i := 2) rfl (Own.nng hn (Own.pr_lt hn _ _)) (show _ = some (Value.int (1 : Int32)) from Own.getZ hn (Own.pr_lt hn _ _) hb) d_prog_7_method_5_29 30 ?_
        refine Own.W.ifF ok d_prog_7_method_5_30 33 (by decide : ¬ ((1 : Int32) = (0 : Int32))) ?_
        refine Own.W.aloadN ok d_prog_7_method_5_33 34 rfl rfl ?_
        refine Own.W.getF ok tb 38 rfl Via.refl (H.fld (i := 0) (j := 0) rfl rfl) d_prog_7_method_5_34 37 ?_
        refine Own.W.iload ok d_prog_7_method_5_37 39 rfl ?_
        refine Own.W.iald ok H (i := 1) rfl (Own.nng hn (Own.pr_lt hn _ _)) (Own.getK hn (Own.pr_lt hn _ _)) d_prog_7_method_5_39 40 ?_
        refine Own.W.iloadN ok d_prog_7_method_5_40 41 rfl ?_
        refine Own.W.icmpT ok d_prog_7_method_5_41 55 hk ?_
        refine Own.W.iload ok d_prog_7_method_5_55 57 rfl ?_
        exact Own.W.iret ok d_prog_7_method_5_57 rfl ⟨rfl, rfl⟩
    | succ mm ih =>
      intro d hd
      have q := F.2.2 d (by omega)
      refine Own.W.aloadN ok d_prog_7_method_5_23 24 rfl rfl ?_
      refine Own.W.getF ok tb 45 rfl Via.refl (H.fld (i := 0) (j := 2) rfl rfl) d_prog_7_method_5_24 27 ?_
      refine Own.W.iload ok d_prog_7_method_5_27 29 rfl ?_
      refine Own.W.zald ok H (i := 2) rfl (Own.nng hn (Own.pr_lt hn _ _)) (show _ = some (Value.int (1 : Int32)) from Own.getZ hn (Own.pr_lt hn _ _) q.1) d_prog_7_method_5_29 30 ?_
      refine Own.W.ifF ok d_prog_7_method_5_30 33 (by decide : ¬ ((1 : Int32) = (0 : Int32))) ?_
      refine Own.W.aloadN ok d_prog_7_method_5_33 34 rfl rfl ?_
      refine Own.W.getF ok tb 38 rfl Via.refl (H.fld (i := 0) (j := 0) rfl rfl) d_prog_7_method_5_34 37 ?_
      refine Own.W.iload ok d_prog_7_method_5_37 39 rfl ?_
      refine Own.W.iald ok H (i := 1) rfl (Own.nng hn (Own.pr_lt hn _ _)) (Own.getK hn (Own.pr_lt hn _ _)) d_prog_7_method_5_39 40 ?_
      refine Own.W.iloadN ok d_prog_7_method_5_40 41 rfl ?_
      refine Own.W.icmpF ok d_prog_7_method_5_41 44 q.2 ?_
      refine Own.W.iload ok d_prog_7_method_5_44 46 rfl ?_
      refine Own.W.iconst ok d_prog_7_method_5_46 47 (1 : Int32) rfl ?_
      refine Own.W.iadd ok d_prog_7_method_5_47 48 ?_
      refine Own.W.iloadN ok d_prog_7_method_5_48 49 rfl ?_
      refine Own.W.iandV ok d_prog_7_method_5_49 50 ((Own.pr n (Own.s0 n key) (d + 1)).toInt32) (Own.nx hn _ _) ?_
      refine Own.W.istore ok d_prog_7_method_5_50 52 #[.val (.ref t), .val (.int key), .val (.int (Own.mk n)), .val (.int (key * (-1640531527 : Int32))), .val (.int ((Own.pr n (Own.s0 n key) (d + 1)).toInt32))] rfl ?_
      refine Own.W.goto ok d_prog_7_method_5_52 23 ?_
      exact ih (d + 1) (by omega)
  exact L D 0 (Nat.zero_add _)
set_option maxRecDepth 65536 in
set_option maxHeartbeats 4000000 in
theorem c_grow (l : Launch) {Z : State} {a0 : Array Value} (tb : Own.Tb Z a0 tables_1) (t : Addr) (ka : Addr) (va : Addr) (ha : Addr) (kk : ClassId) (kv : ClassId) (kh : ClassId) (Kf : Nat → Int32) (Hf : Nat → Bool) (Vf : Nat → Value) (m : Int32 → Option Value) (tl : List (Addr × Own.Pc)) (h : Heap) (cs : List (Addr × Own.Pc)) (H : Own.HS Z h ((t, o_IT (.ref ka) (.ref va) (.ref ha) (.int (9 : Int32))) :: (ka, .inr (.int, kk, (Own.tK 16 Kf))) :: (va, .inr ((.object "java/lang/Object"), kv, (Own.tab 16 Vf))) :: (ha, .inr (.boolean, kh, (Own.tH 16 Hf))) :: cs)) (I : Own.Inv 16 Kf Hf) (R : Own.Rep 16 Kf Hf Vf m) (hV : ∀ j, Own.VOK tl (Vf j)) (hsub : ∀ q ∈ tl, q ∈ cs) :
    Own.Con l Z (⟨"com/example/trellis/trellis/IntTable", "grow", "()V"⟩ : MethodName) prog_7_method_6_code 6 none ({ frames := 1, cells := 3, slots := 96, locals := 20 } : Room) #[(.ref t)] h (fun rr h' => ∃ (ka2 : Addr) (va2 : Addr) (ha2 : Addr) (kk2 : ClassId) (kv2 : ClassId) (kh2 : ClassId) (K2 : Nat → Int32) (H2 : Nat → Bool) (V2 : Nat → Value), rr = none ∧ Own.HS Z h' ((t, o_IT (.ref ka2) (.ref va2) (.ref ha2) (.int (9 : Int32))) :: (ka2, .inr (.int, kk2, (Own.tK 32 K2))) :: (va2, .inr ((.object "java/lang/Object"), kv2, (Own.tab 32 V2))) :: (ha2, .inr (.boolean, kh2, (Own.tH 32 H2))) :: cs) ∧ Own.TI 32 K2 H2 V2 9 m ∧ (∀ j, Own.VOK tl (V2 j)) ∧ Ovr Z kv2 "java/lang/Object") := by
  refine Own.Con.of (plainFor_of_name (by first | (simp [plainName, overriddenIn]; done) | decide +kernel)) #[.val (.ref t), .unset, .unset, .unset, .unset, .unset] (fun m => by first | rfl | (simp [entryFrame, mkF, argsToLocals, Value.category, maxLocals]; done)) (fun K ok => ?_)
  refine Own.W.aloadN ok d_prog_7_method_6_0 1 rfl rfl ?_
  refine Own.W.getF ok tb 38 rfl Via.refl (H.fld (i := 0) (j := 0) rfl rfl) d_prog_7_method_6_1 4 ?_
  refine Own.W.astoreN ok d_prog_7_method_6_4 5 #[.val (.ref t), .val (.ref ka), .unset, .unset, .unset, .unset] rfl rfl ?_
  refine Own.W.aloadN ok d_prog_7_method_6_5 6 rfl rfl ?_
  refine Own.W.getF ok tb 42 rfl Via.refl (H.fld (i := 0) (j := 1) rfl rfl) d_prog_7_method_6_6 9 ?_
  refine Own.W.astoreN ok d_prog_7_method_6_9 10 #[.val (.ref t), .val (.ref ka), .val (.ref va), .unset, .unset, .unset] rfl rfl ?_
  refine Own.W.aloadN ok d_prog_7_method_6_10 11 rfl rfl ?_
  refine Own.W.getF ok tb 45 rfl Via.refl (H.fld (i := 0) (j := 2) rfl rfl) d_prog_7_method_6_11 14 ?_
  refine Own.W.astoreN ok d_prog_7_method_6_14 15 #[.val (.ref t), .val (.ref ka), .val (.ref va), .val (.ref ha), .unset, .unset] rfl rfl ?_
  refine Own.W.aloadN ok d_prog_7_method_6_15 16 rfl rfl ?_
  refine Own.W.iconst ok d_prog_7_method_6_16 17 (2 : Int32) rfl ?_
  refine Own.W.aloadN ok d_prog_7_method_6_17 18 rfl rfl ?_
  refine Own.W.alen ok H (i := 1) rfl d_prog_7_method_6_18 19 (16 : Int32) (by rw [Own.lenK]; rfl) ?_
  refine Own.W.imulV ok d_prog_7_method_6_19 20 (32 : Int32) (by decide) ?_
  refine Own.W.newP ok tb H 0 rfl d_prog_7_method_6_20 32 (Own.tK 32 (fun _ => 0)) rfl 1 32 22 (by decide) (by decide) (fun a1 k2 h3 H4 => ?_)
  show Own.W l Z _ K _ h3 1 32 22 #[.val (.ref t), .val (.ref ka), .val (.ref va), .val (.ref ha), .unset, .unset] [(.ref a1), (.ref t)]
  refine Own.W.putF ok tb H4 (i := 1) (j := 0) (ty := (.array .int)) (w' := (.ref a1)) rfl rfl 38 32 rfl rfl Via.refl (Or.inl (tb _ (List.mem_of_getElem? (i := 39) rfl))) (Own.Lay.of (nw_IT tb) rfl) (by decide) rfl rfl d_prog_7_method_6_22 25 ((a1, .inr (.int, k2, (Own.tK 32 (fun _ => 0)))) :: (t, o_IT (.ref a1) (.ref va) (.ref ha) (.int (9 : Int32))) :: (ka, .inr (.int, kk, (Own.tK 16 Kf))) :: (va, .inr ((.object "java/lang/Object"), kv, (Own.tab 16 Vf))) :: (ha, .inr (.boolean, kh, (Own.tH 16 Hf))) :: cs) rfl (fun h5 H6 => ?_)
  refine Own.W.aloadN ok d_prog_7_method_6_25 26 rfl rfl ?_
  refine Own.W.aloadN ok d_prog_7_method_6_26 27 rfl rfl ?_
  refine Own.W.getF ok tb 38 rfl Via.refl (H6.fld (i := 1) (j := 0) rfl rfl) d_prog_7_method_6_27 30 ?_
  refine Own.W.alen ok H6 (i := 0) rfl d_prog_7_method_6_30 31 (32 : Int32) (by rw [Own.lenK]; rfl) ?_
  refine Own.W.newR ok tb H6 40 41 rfl rfl d_prog_7_method_6_31 32 (Own.tab 32 (fun _ => .null)) rfl 2 64 34 (by decide) (by decide) (fun a7 k8 h9 O11 H10 => ?_)
  show Own.W l Z _ K _ h9 2 64 34 #[.val (.ref t), .val (.ref ka), .val (.ref va), .val (.ref ha), .unset, .unset] [(.ref a7), (.ref t)]
  refine Own.W.putF ok tb H10 (i := 2) (j := 1) (ty := (.array (.object "java/lang/Object"))) (w' := (.ref a7)) rfl rfl 42 32 rfl rfl Via.refl (Or.inl (tb _ (List.mem_of_getElem? (i := 43) rfl))) (Own.Lay.of (nw_IT tb) rfl) (by decide) rfl rfl d_prog_7_method_6_34 37 ((a7, .inr ((.object "java/lang/Object"), k8, (Own.tab 32 (fun _ => .null)))) :: (a1, .inr (.int, k2, (Own.tK 32 (fun _ => 0)))) :: (t, o_IT (.ref a1) (.ref a7) (.ref ha) (.int (9 : Int32))) :: (ka, .inr (.int, kk, (Own.tK 16 Kf))) :: (va, .inr ((.object "java/lang/Object"), kv, (Own.tab 16 Vf))) :: (ha, .inr (.boolean, kh, (Own.tH 16 Hf))) :: cs) rfl (fun h12 H13 => ?_)
  refine Own.W.aloadN ok d_prog_7_method_6_37 38 rfl rfl ?_
  refine Own.W.aloadN ok d_prog_7_method_6_38 39 rfl rfl ?_
  refine Own.W.getF ok tb 38 rfl Via.refl (H13.fld (i := 2) (j := 0) rfl rfl) d_prog_7_method_6_39 42 ?_
  refine Own.W.alen ok H13 (i := 1) rfl d_prog_7_method_6_42 43 (32 : Int32) (by rw [Own.lenK]; rfl) ?_
  refine Own.W.newP ok tb H13 44 rfl d_prog_7_method_6_43 32 (Own.tH 32 (fun _ => false)) rfl 3 96 45 (by decide) (by decide) (fun a14 k15 h16 H17 => ?_)
  show Own.W l Z _ K _ h16 3 96 45 #[.val (.ref t), .val (.ref ka), .val (.ref va), .val (.ref ha), .unset, .unset] [(.ref a14), (.ref t)]
  refine Own.W.putF ok tb H17 (i := 3) (j := 2) (ty := (.array .boolean)) (w' := (.ref a14)) rfl rfl 45 32 rfl rfl Via.refl (Or.inl (tb _ (List.mem_of_getElem? (i := 46) rfl))) (Own.Lay.of (nw_IT tb) rfl) (by decide) rfl rfl d_prog_7_method_6_45 48 ((a14, .inr (.boolean, k15, (Own.tH 32 (fun _ => false)))) :: (a7, .inr ((.object "java/lang/Object"), k8, (Own.tab 32 (fun _ => .null)))) :: (a1, .inr (.int, k2, (Own.tK 32 (fun _ => 0)))) :: (t, o_IT (.ref a1) (.ref a7) (.ref a14) (.int (9 : Int32))) :: (ka, .inr (.int, kk, (Own.tK 16 Kf))) :: (va, .inr ((.object "java/lang/Object"), kv, (Own.tab 16 Vf))) :: (ha, .inr (.boolean, kh, (Own.tH 16 Hf))) :: cs) rfl (fun h18 H19 => ?_)
  refine Own.W.iconst ok d_prog_7_method_6_48 49 (0 : Int32) rfl ?_
  refine Own.W.istore ok d_prog_7_method_6_49 51 #[.val (.ref t), .val (.ref ka), .val (.ref va), .val (.ref ha), .val (.int (0 : Int32)), .unset] rfl ?_
  have L : ∀ mm i, i + mm = 16 → ∀ (hh : Heap) (K2 : Nat → Int32) (H2 : Nat → Bool) (V2 : Nat → Value) (s5 : Slot), One s5 → Own.HS Z hh ((a14, .inr (.boolean, k15, (Own.tH 32 H2))) :: (a7, .inr ((.object "java/lang/Object"), k8, (Own.tab 32 V2))) :: (a1, .inr (.int, k2, (Own.tK 32 K2))) :: (t, o_IT (.ref a1) (.ref a7) (.ref a14) (.int (9 : Int32))) :: (ka, .inr (.int, kk, (Own.tK 16 Kf))) :: (va, .inr ((.object "java/lang/Object"), kv, (Own.tab 16 Vf))) :: (ha, .inr (.boolean, kh, (Own.tH 16 Hf))) :: cs) → Own.GI Kf Hf Vf i K2 H2 V2 → (∀ j, Own.VOK tl (V2 j)) → Own.W l Z ({ frames := 1, cells := 3, slots := 96, locals := 20 } : Room) K (fun rr h' => ∃ (ka2 : Addr) (va2 : Addr) (ha2 : Addr) (kk2 : ClassId) (kv2 : ClassId) (kh2 : ClassId) (K2 : Nat → Int32) (H2 : Nat → Bool) (V2 : Nat → Value), rr = none ∧ Own.HS Z h' ((t, o_IT (.ref ka2) (.ref va2) (.ref ha2) (.int (9 : Int32))) :: (ka2, .inr (.int, kk2, (Own.tK 32 K2))) :: (va2, .inr ((.object "java/lang/Object"), kv2, (Own.tab 32 V2))) :: (ha2, .inr (.boolean, kh2, (Own.tH 32 H2))) :: cs) ∧ Own.TI 32 K2 H2 V2 9 m ∧ (∀ j, Own.VOK tl (V2 j)) ∧ Ovr Z kv2 "java/lang/Object") hh 3 96 51 #[.val (.ref t), .val (.ref ka), .val (.ref va), .val (.ref ha), .val (.int (i.toInt32)), s5] [] := by
    intro mm
    induction mm with
    | zero =>
      intro i hi hh K2 H2 V2 s5 h5 Hh G hV2
      have e : i = 16 := by omega
      subst e
      refine Own.W.iload ok d_prog_7_method_6_51 53 rfl ?_
      refine Own.W.aloadN ok d_prog_7_method_6_53 54 rfl rfl ?_
      refine Own.W.alen ok Hh (i := 4) rfl d_prog_7_method_6_54 55 (16 : Int32) (by rw [Own.lenK]; rfl) ?_
      refine Own.W.icmpT ok d_prog_7_method_6_55 111 (by decide : ¬ ((16 : Nat).toInt32 < (16 : Int32))) ?_
      exact Own.W.vret ok d_prog_7_method_6_111 ⟨a1, a7, a14, k2, k8, k15, K2, H2, V2, rfl, ((((Hh.pull 1 ((a7, .inr ((.object "java/lang/Object"), k8, (Own.tab 32 V2))) :: (a14, .inr (.boolean, k15, (Own.tH 32 H2))) :: (a1, .inr (.int, k2, (Own.tK 32 K2))) :: (t, o_IT (.ref a1) (.ref a7) (.ref a14) (.int (9 : Int32))) :: (ka, .inr (.int, kk, (Own.tK 16 Kf))) :: (va, .inr ((.object "java/lang/Object"), kv, (Own.tab 16 Vf))) :: (ha, .inr (.boolean, kh, (Own.tH 16 Hf))) :: cs) rfl rfl).pull 2 ((a1, .inr (.int, k2, (Own.tK 32 K2))) :: (a7, .inr ((.object "java/lang/Object"), k8, (Own.tab 32 V2))) :: (a14, .inr (.boolean, k15, (Own.tH 32 H2))) :: (t, o_IT (.ref a1) (.ref a7) (.ref a14) (.int (9 : Int32))) :: (ka, .inr (.int, kk, (Own.tK 16 Kf))) :: (va, .inr ((.object "java/lang/Object"), kv, (Own.tab 16 Vf))) :: (ha, .inr (.boolean, kh, (Own.tH 16 Hf))) :: cs) rfl rfl).pull 3 ((t, o_IT (.ref a1) (.ref a7) (.ref a14) (.int (9 : Int32))) :: (a1, .inr (.int, k2, (Own.tK 32 K2))) :: (a7, .inr ((.object "java/lang/Object"), k8, (Own.tab 32 V2))) :: (a14, .inr (.boolean, k15, (Own.tH 32 H2))) :: (ka, .inr (.int, kk, (Own.tK 16 Kf))) :: (va, .inr ((.object "java/lang/Object"), kv, (Own.tab 16 Vf))) :: (ha, .inr (.boolean, kh, (Own.tH 16 Hf))) :: cs) rfl rfl).drop (List.Sublist.cons_cons _ (List.Sublist.cons_cons _ (List.Sublist.cons_cons _ (List.Sublist.cons_cons _ (List.Sublist.cons _ (List.Sublist.cons _ (List.Sublist.cons _ (List.Sublist.refl _))))))))), (Own.GI.done R G rfl), hV2, O11⟩
    | succ mm ih =>
      intro i hi hh K2 H2 V2 s5 h5 Hh G hV2
      have hi16 : i < 16 := by omega
      refine Own.W.iload ok d_prog_7_method_6_51 53 rfl ?_
      refine Own.W.aloadN ok d_prog_7_method_6_53 54 rfl rfl ?_
      refine Own.W.alen ok Hh (i := 4) rfl d_prog_7_method_6_54 55 (16 : Int32) (by rw [Own.lenK]; rfl) ?_
      refine Own.W.icmpF ok d_prog_7_method_6_55 58 (Own.lt16 hi16) ?_
      refine Own.W.aloadN ok d_prog_7_method_6_58 59 rfl rfl ?_
      refine Own.W.iload ok d_prog_7_method_6_59 61 rfl ?_
      cases hb : Hf i with
      | false =>
        refine Own.W.zald ok Hh (i := 6) rfl (Own.nng (Or.inl rfl) hi16) (show _ = some (Value.int (0 : Int32)) from Own.getZ (Or.inl rfl) hi16 hb) d_prog_7_method_6_61 62 ?_
        refine Own.W.ifT ok d_prog_7_method_6_62 105 (by decide : (0 : Int32) = (0 : Int32)) ?_
        refine Own.W.iinc ok d_prog_7_method_6_105 108 ((i + 1).toInt32) #[.val (.ref t), .val (.ref ka), .val (.ref va), .val (.ref ha), .val (.int ((i + 1).toInt32)), s5] rfl (Own.sucI i) rfl ?_
        refine Own.W.goto ok d_prog_7_method_6_108 51 ?_
        exact ih (i + 1) (by omega) _ K2 H2 V2 s5 h5 Hh (G.skip hb) hV2
      | true =>
        refine Own.W.zald ok Hh (i := 6) rfl (Own.nng (Or.inl rfl) hi16) (show _ = some (Value.int (1 : Int32)) from Own.getZ (Or.inl rfl) hi16 hb) d_prog_7_method_6_61 62 ?_
        refine Own.W.ifF ok d_prog_7_method_6_62 65 (by decide : ¬ ((1 : Int32) = (0 : Int32))) ?_
        refine Own.W.aloadN ok d_prog_7_method_6_65 66 rfl rfl ?_
        refine Own.W.aloadN ok d_prog_7_method_6_66 67 rfl rfl ?_
        refine Own.W.iload ok d_prog_7_method_6_67 69 rfl ?_
        refine Own.W.iald ok Hh (i := 4) rfl (Own.nng (Or.inl rfl) hi16) (Own.getK (Or.inl rfl) hi16) d_prog_7_method_6_69 70 ?_
        obtain ⟨D, F⟩ := G.fst hi16 (Kf i)
        have H20 : Own.HS Z hh ((a1, .inr (.int, k2, (Own.tK 32 K2))) :: (a14, .inr (.boolean, k15, (Own.tH 32 H2))) :: (a7, .inr ((.object "java/lang/Object"), k8, (Own.tab 32 V2))) :: (t, o_IT (.ref a1) (.ref a7) (.ref a14) (.int (9 : Int32))) :: (ka, .inr (.int, kk, (Own.tK 16 Kf))) :: (va, .inr ((.object "java/lang/Object"), kv, (Own.tab 16 Vf))) :: (ha, .inr (.boolean, kh, (Own.tH 16 Hf))) :: cs) := Hh.pull 2 _ rfl rfl
        have H21 : Own.HS Z hh ((t, o_IT (.ref a1) (.ref a7) (.ref a14) (.int (9 : Int32))) :: (a1, .inr (.int, k2, (Own.tK 32 K2))) :: (a14, .inr (.boolean, k15, (Own.tH 32 H2))) :: (a7, .inr ((.object "java/lang/Object"), k8, (Own.tab 32 V2))) :: (ka, .inr (.int, kk, (Own.tK 16 Kf))) :: (va, .inr ((.object "java/lang/Object"), kv, (Own.tab 16 Vf))) :: (ha, .inr (.boolean, kh, (Own.tH 16 Hf))) :: cs) := H20.pull 3 _ rfl rfl
        refine Own.W.callQ ok tb (a := t) (argsL := [(.int (Kf i))]) (rest := []) 52 53 32 54 55 33 rfl rfl rfl rfl rfl rfl (H21.exa (i := 0) rfl) d_prog_7_method_6_70 pd_0 (c_slot l tb t a1 a7 a14 k2 k8 k15 32 K2 H2 V2 (9 : Int32) (Kf i) D hh ((a7, .inr ((.object "java/lang/Object"), k8, (Own.tab 32 V2))) :: (ka, .inr (.int, kk, (Own.tK 16 Kf))) :: (va, .inr ((.object "java/lang/Object"), kv, (Own.tab 16 Vf))) :: (ha, .inr (.boolean, kh, (Own.tH 16 Hf))) :: cs) H21 (Or.inr rfl) F) 0 3 96 73 ?_
        rintro _ _ ⟨rfl, rfl⟩
        show Own.W l Z _ K _ hh 3 96 73 #[.val (.ref t), .val (.ref ka), .val (.ref va), .val (.ref ha), .val (.int (i.toInt32)), s5] [(.int ((Own.pr 32 (Own.s0 32 (Kf i)) D).toInt32))]
        refine Own.W.istore ok d_prog_7_method_6_73 75 #[.val (.ref t), .val (.ref ka), .val (.ref va), .val (.ref ha), .val (.int (i.toInt32)), .val (.int ((Own.pr 32 (Own.s0 32 (Kf i)) D).toInt32))] (Own.st6 h5) ?_
        refine Own.W.aloadN ok d_prog_7_method_6_75 76 rfl rfl ?_
        refine Own.W.getF ok tb 45 rfl Via.refl (H21.fld (i := 0) (j := 2) rfl rfl) d_prog_7_method_6_76 79 ?_
        refine Own.W.iload ok d_prog_7_method_6_79 81 rfl ?_
        refine Own.W.iconst ok d_prog_7_method_6_81 82 (1 : Int32) rfl ?_
        refine Own.W.zast ok H21 (i := 2) rfl (Own.nng (Or.inr rfl) (Own.pr_lt (Or.inr rfl) _ _)) (Own.ltL (Or.inr rfl) (Own.pr_lt (Or.inr rfl) _ _)) (1 : Int32) (by decide) d_prog_7_method_6_82 83 ((t, o_IT (.ref a1) (.ref a7) (.ref a14) (.int (9 : Int32))) :: (a1, .inr (.int, k2, (Own.tK 32 K2))) :: (a14, .inr (.boolean, k15, (Own.tH 32 (Own.fs H2 (Own.pr 32 (Own.s0 32 (Kf i)) D) true)))) :: (a7, .inr ((.object "java/lang/Object"), k8, (Own.tab 32 V2))) :: (ka, .inr (.int, kk, (Own.tK 16 Kf))) :: (va, .inr ((.object "java/lang/Object"), kv, (Own.tab 16 Vf))) :: (ha, .inr (.boolean, kh, (Own.tH 16 Hf))) :: cs) (by rw [Own.setZ (Or.inr rfl) (Own.pr_lt (Or.inr rfl) _ _)]; rfl) (fun h22 H23 => ?_)
        refine Own.W.aloadN ok d_prog_7_method_6_83 84 rfl rfl ?_
        refine Own.W.getF ok tb 38 rfl Via.refl (H23.fld (i := 0) (j := 0) rfl rfl) d_prog_7_method_6_84 87 ?_
        refine Own.W.iload ok d_prog_7_method_6_87 89 rfl ?_
        refine Own.W.aloadN ok d_prog_7_method_6_89 90 rfl rfl ?_
        refine Own.W.iload ok d_prog_7_method_6_90 92 rfl ?_
        refine Own.W.iald ok H23 (i := 4) rfl (Own.nng (Or.inl rfl) hi16) (Own.getK (Or.inl rfl) hi16) d_prog_7_method_6_92 93 ?_
        refine Own.W.iast ok H23 (i := 1) rfl (Own.nng (Or.inr rfl) (Own.pr_lt (Or.inr rfl) _ _)) (Own.ltL (Or.inr rfl) (Own.pr_lt (Or.inr rfl) _ _)) d_prog_7_method_6_93 94 ((t, o_IT (.ref a1) (.ref a7) (.ref a14) (.int (9 : Int32))) :: (a1, .inr (.int, k2, (Own.tK 32 (Own.fs K2 (Own.pr 32 (Own.s0 32 (Kf i)) D) (Kf i))))) :: (a14, .inr (.boolean, k15, (Own.tH 32 (Own.fs H2 (Own.pr 32 (Own.s0 32 (Kf i)) D) true)))) :: (a7, .inr ((.object "java/lang/Object"), k8, (Own.tab 32 V2))) :: (ka, .inr (.int, kk, (Own.tK 16 Kf))) :: (va, .inr ((.object "java/lang/Object"), kv, (Own.tab 16 Vf))) :: (ha, .inr (.boolean, kh, (Own.tH 16 Hf))) :: cs) (by rw [Own.setK (Or.inr rfl) (Own.pr_lt (Or.inr rfl) _ _)]; rfl) (fun h24 H25 => ?_)
        refine Own.W.aloadN ok d_prog_7_method_6_94 95 rfl rfl ?_
        refine Own.W.getF ok tb 42 rfl Via.refl (H25.fld (i := 0) (j := 1) rfl rfl) d_prog_7_method_6_95 98 ?_
        refine Own.W.iload ok d_prog_7_method_6_98 100 rfl ?_
        refine Own.W.aloadN ok d_prog_7_method_6_100 101 rfl rfl ?_
        refine Own.W.iload ok d_prog_7_method_6_101 103 rfl ?_
        refine Own.W.aald ok H25 (i := 5) rfl (Own.nng (Or.inl rfl) hi16) (Own.getV (Or.inl rfl) hi16) d_prog_7_method_6_103 104 ?_
        refine Own.W.aast ok H25 (i := 3) rfl (Own.nng (Or.inr rfl) (Own.pr_lt (Or.inr rfl) _ _)) (Own.ltL (Or.inr rfl) (Own.pr_lt (Or.inr rfl) _ _)) (Own.VOK.sto H25 (i := 3) rfl O11 (fun q hq => List.mem_cons_of_mem _ (List.mem_cons_of_mem _ (List.mem_cons_of_mem _ (List.mem_cons_of_mem _ (List.mem_cons_of_mem _ (List.mem_cons_of_mem _ (List.mem_cons_of_mem _ (hsub q hq)))))))) (hV i) (tb _ (List.mem_of_getElem? (i := 59) rfl))) d_prog_7_method_6_104 105 ((t, o_IT (.ref a1) (.ref a7) (.ref a14) (.int (9 : Int32))) :: (a1, .inr (.int, k2, (Own.tK 32 (Own.fs K2 (Own.pr 32 (Own.s0 32 (Kf i)) D) (Kf i))))) :: (a14, .inr (.boolean, k15, (Own.tH 32 (Own.fs H2 (Own.pr 32 (Own.s0 32 (Kf i)) D) true)))) :: (a7, .inr ((.object "java/lang/Object"), k8, (Own.tab 32 (Own.fs V2 (Own.pr 32 (Own.s0 32 (Kf i)) D) (Vf i))))) :: (ka, .inr (.int, kk, (Own.tK 16 Kf))) :: (va, .inr ((.object "java/lang/Object"), kv, (Own.tab 16 Vf))) :: (ha, .inr (.boolean, kh, (Own.tH 16 Hf))) :: cs) (by rw [Own.setV (Or.inr rfl) (Own.pr_lt (Or.inr rfl) _ _)]; rfl) (fun h26 H27 => ?_)
        refine Own.W.iinc ok d_prog_7_method_6_105 108 ((i + 1).toInt32) #[.val (.ref t), .val (.ref ka), .val (.ref va), .val (.ref ha), .val (.int ((i + 1).toInt32)), .val (.int ((Own.pr 32 (Own.s0 32 (Kf i)) D).toInt32))] rfl (Own.sucI i) rfl ?_
        refine Own.W.goto ok d_prog_7_method_6_108 51 ?_
        exact ih (i + 1) (by omega) _ (Own.fs K2 (Own.pr 32 (Own.s0 32 (Kf i)) D) (Kf i)) (Own.fs H2 (Own.pr 32 (Own.s0 32 (Kf i)) D) true) (Own.fs V2 (Own.pr 32 (Own.s0 32 (Kf i)) D) (Vf i)) _ (One.val rfl) (((((((H27.pull 6 ((ha, .inr (.boolean, kh, (Own.tH 16 Hf))) :: (t, o_IT (.ref a1) (.ref a7) (.ref a14) (.int (9 : Int32))) :: (a1, .inr (.int, k2, (Own.tK 32 (Own.fs K2 (Own.pr 32 (Own.s0 32 (Kf i)) D) (Kf i))))) :: (a14, .inr (.boolean, k15, (Own.tH 32 (Own.fs H2 (Own.pr 32 (Own.s0 32 (Kf i)) D) true)))) :: (a7, .inr ((.object "java/lang/Object"), k8, (Own.tab 32 (Own.fs V2 (Own.pr 32 (Own.s0 32 (Kf i)) D) (Vf i))))) :: (ka, .inr (.int, kk, (Own.tK 16 Kf))) :: (va, .inr ((.object "java/lang/Object"), kv, (Own.tab 16 Vf))) :: cs) rfl rfl).pull 6 ((va, .inr ((.object "java/lang/Object"), kv, (Own.tab 16 Vf))) :: (ha, .inr (.boolean, kh, (Own.tH 16 Hf))) :: (t, o_IT (.ref a1) (.ref a7) (.ref a14) (.int (9 : Int32))) :: (a1, .inr (.int, k2, (Own.tK 32 (Own.fs K2 (Own.pr 32 (Own.s0 32 (Kf i)) D) (Kf i))))) :: (a14, .inr (.boolean, k15, (Own.tH 32 (Own.fs H2 (Own.pr 32 (Own.s0 32 (Kf i)) D) true)))) :: (a7, .inr ((.object "java/lang/Object"), k8, (Own.tab 32 (Own.fs V2 (Own.pr 32 (Own.s0 32 (Kf i)) D) (Vf i))))) :: (ka, .inr (.int, kk, (Own.tK 16 Kf))) :: cs) rfl rfl).pull 6 ((ka, .inr (.int, kk, (Own.tK 16 Kf))) :: (va, .inr ((.object "java/lang/Object"), kv, (Own.tab 16 Vf))) :: (ha, .inr (.boolean, kh, (Own.tH 16 Hf))) :: (t, o_IT (.ref a1) (.ref a7) (.ref a14) (.int (9 : Int32))) :: (a1, .inr (.int, k2, (Own.tK 32 (Own.fs K2 (Own.pr 32 (Own.s0 32 (Kf i)) D) (Kf i))))) :: (a14, .inr (.boolean, k15, (Own.tH 32 (Own.fs H2 (Own.pr 32 (Own.s0 32 (Kf i)) D) true)))) :: (a7, .inr ((.object "java/lang/Object"), k8, (Own.tab 32 (Own.fs V2 (Own.pr 32 (Own.s0 32 (Kf i)) D) (Vf i))))) :: cs) rfl rfl).pull 3 ((t, o_IT (.ref a1) (.ref a7) (.ref a14) (.int (9 : Int32))) :: (ka, .inr (.int, kk, (Own.tK 16 Kf))) :: (va, .inr ((.object "java/lang/Object"), kv, (Own.tab 16 Vf))) :: (ha, .inr (.boolean, kh, (Own.tH 16 Hf))) :: (a1, .inr (.int, k2, (Own.tK 32 (Own.fs K2 (Own.pr 32 (Own.s0 32 (Kf i)) D) (Kf i))))) :: (a14, .inr (.boolean, k15, (Own.tH 32 (Own.fs H2 (Own.pr 32 (Own.s0 32 (Kf i)) D) true)))) :: (a7, .inr ((.object "java/lang/Object"), k8, (Own.tab 32 (Own.fs V2 (Own.pr 32 (Own.s0 32 (Kf i)) D) (Vf i))))) :: cs) rfl rfl).pull 4 ((a1, .inr (.int, k2, (Own.tK 32 (Own.fs K2 (Own.pr 32 (Own.s0 32 (Kf i)) D) (Kf i))))) :: (t, o_IT (.ref a1) (.ref a7) (.ref a14) (.int (9 : Int32))) :: (ka, .inr (.int, kk, (Own.tK 16 Kf))) :: (va, .inr ((.object "java/lang/Object"), kv, (Own.tab 16 Vf))) :: (ha, .inr (.boolean, kh, (Own.tH 16 Hf))) :: (a14, .inr (.boolean, k15, (Own.tH 32 (Own.fs H2 (Own.pr 32 (Own.s0 32 (Kf i)) D) true)))) :: (a7, .inr ((.object "java/lang/Object"), k8, (Own.tab 32 (Own.fs V2 (Own.pr 32 (Own.s0 32 (Kf i)) D) (Vf i))))) :: cs) rfl rfl).pull 6 ((a7, .inr ((.object "java/lang/Object"), k8, (Own.tab 32 (Own.fs V2 (Own.pr 32 (Own.s0 32 (Kf i)) D) (Vf i))))) :: (a1, .inr (.int, k2, (Own.tK 32 (Own.fs K2 (Own.pr 32 (Own.s0 32 (Kf i)) D) (Kf i))))) :: (t, o_IT (.ref a1) (.ref a7) (.ref a14) (.int (9 : Int32))) :: (ka, .inr (.int, kk, (Own.tK 16 Kf))) :: (va, .inr ((.object "java/lang/Object"), kv, (Own.tab 16 Vf))) :: (ha, .inr (.boolean, kh, (Own.tH 16 Hf))) :: (a14, .inr (.boolean, k15, (Own.tH 32 (Own.fs H2 (Own.pr 32 (Own.s0 32 (Kf i)) D) true)))) :: cs) rfl rfl).pull 6 ((a14, .inr (.boolean, k15, (Own.tH 32 (Own.fs H2 (Own.pr 32 (Own.s0 32 (Kf i)) D) true)))) :: (a7, .inr ((.object "java/lang/Object"), k8, (Own.tab 32 (Own.fs V2 (Own.pr 32 (Own.s0 32 (Kf i)) D) (Vf i))))) :: (a1, .inr (.int, k2, (Own.tK 32 (Own.fs K2 (Own.pr 32 (Own.s0 32 (Kf i)) D) (Kf i))))) :: (t, o_IT (.ref a1) (.ref a7) (.ref a14) (.int (9 : Int32))) :: (ka, .inr (.int, kk, (Own.tK 16 Kf))) :: (va, .inr ((.object "java/lang/Object"), kv, (Own.tab 16 Vf))) :: (ha, .inr (.boolean, kh, (Own.tH 16 Hf))) :: cs) rfl rfl) (Own.GI.put I G hi16 hb F) (Own.VOK.fs hV2 (hV i))
  exact L 16 0 rfl _ _ _ _ _ One.u H19 (Own.GI.zero Kf Hf Vf) (fun _ => Or.inl rfl)
set_option maxRecDepth 65536 in
set_option maxHeartbeats 4000000 in
theorem c_putA (l : Launch) {Z : State} {a0 : Array Value} (tb : Own.Tb Z a0 tables_1) (t : Addr) (ka : Addr) (va : Addr) (ha : Addr) (kk : ClassId) (kv : ClassId) (kh : ClassId) (n : Nat) (Kf : Nat → Int32) (Hf : Nat → Bool) (Vf : Nat → Value) (zz : Nat) (key : Int32) (v : Value) (m : Int32 → Option Value) (tl : List (Addr × Own.Pc)) (h : Heap) (cs : List (Addr × Own.Pc)) (H : Own.HS Z h ((t, o_IT (.ref ka) (.ref va) (.ref ha) (.int (zz.toInt32))) :: (ka, .inr (.int, kk, (Own.tK n Kf))) :: (va, .inr ((.object "java/lang/Object"), kv, (Own.tab n Vf))) :: (ha, .inr (.boolean, kh, (Own.tH n Hf))) :: cs)) (T : Own.TI n Kf Hf Vf zz m) (hz : zz ≤ 7) (hv : Own.VOK tl v) (hV : ∀ j, Own.VOK tl (Vf j)) (hsub : ∀ q ∈ tl, q ∈ cs) (Ov : Ovr Z kv "java/lang/Object") :
    Own.Con l Z (⟨"com/example/trellis/trellis/IntTable", "put", "(ILjava/lang/Object;)V"⟩ : MethodName) prog_7_method_4_code 4 none ({ frames := 1, cells := 0, slots := 0, locals := 20 } : Room) #[(.ref t), (.int key), v] h (fun rr h' => ∃ (ka2 : Addr) (va2 : Addr) (ha2 : Addr) (kk2 : ClassId) (kv2 : ClassId) (kh2 : ClassId) (n2 : Nat) (K2 : Nat → Int32) (H2 : Nat → Bool) (V2 : Nat → Value) (z2 : Nat), rr = none ∧ Own.HS Z h' ((t, o_IT (.ref ka2) (.ref va2) (.ref ha2) (.int (z2.toInt32))) :: (ka2, .inr (.int, kk2, (Own.tK n2 K2))) :: (va2, .inr ((.object "java/lang/Object"), kv2, (Own.tab n2 V2))) :: (ha2, .inr (.boolean, kh2, (Own.tH n2 H2))) :: cs) ∧ Own.TI n2 K2 H2 V2 z2 (Own.upd m key v) ∧ z2 ≤ zz + 1 ∧ (∀ j, Own.VOK tl (V2 j)) ∧ Ovr Z kv2 "java/lang/Object") := by
  refine Own.Con.of (plainFor_of_name (by first | (simp [plainName, overriddenIn]; done) | decide +kernel)) #[.val (.ref t), .val (.int key), .val v, .unset] (fun m => by rcases ref_cases hv.ref with e | ⟨_, e⟩ <;> rw [e] <;> first | rfl | (simp [entryFrame, mkF, argsToLocals, Value.category, maxLocals]; done)) (fun K ok => ?_)
  obtain ⟨hn, I, hc, h9, h2, R⟩ := T
  obtain ⟨D, F⟩ := Own.fst_ex (K := Kf) hn (Own.TI.cnt_lt ⟨hn, I, hc, h9, h2, R⟩) key
  refine Own.W.aloadN ok d_prog_7_method_4_0 1 rfl rfl ?_
  refine Own.W.iloadN ok d_prog_7_method_4_1 2 rfl ?_
  have H1 : Own.HS Z h ((ha, .inr (.boolean, kh, (Own.tH n Hf))) :: (t, o_IT (.ref ka) (.ref va) (.ref ha) (.int (zz.toInt32))) :: (ka, .inr (.int, kk, (Own.tK n Kf))) :: (va, .inr ((.object "java/lang/Object"), kv, (Own.tab n Vf))) :: cs) := H.pull 3 _ rfl rfl
  have H2 : Own.HS Z h ((ka, .inr (.int, kk, (Own.tK n Kf))) :: (ha, .inr (.boolean, kh, (Own.tH n Hf))) :: (t, o_IT (.ref ka) (.ref va) (.ref ha) (.int (zz.toInt32))) :: (va, .inr ((.object "java/lang/Object"), kv, (Own.tab n Vf))) :: cs) := H1.pull 2 _ rfl rfl
  have H3 : Own.HS Z h ((t, o_IT (.ref ka) (.ref va) (.ref ha) (.int (zz.toInt32))) :: (ka, .inr (.int, kk, (Own.tK n Kf))) :: (ha, .inr (.boolean, kh, (Own.tH n Hf))) :: (va, .inr ((.object "java/lang/Object"), kv, (Own.tab n Vf))) :: cs) := H2.pull 2 _ rfl rfl
  refine Own.W.callQ ok tb (a := t) (argsL := [(.int key)]) (rest := []) 52 53 32 54 55 33 rfl rfl rfl rfl rfl rfl (H3.exa (i := 0) rfl) d_prog_7_method_4_2 pd_0 (c_slot l tb t ka va ha kk kv kh n Kf Hf Vf (zz.toInt32) key D h ((va, .inr ((.object "java/lang/Object"), kv, (Own.tab n Vf))) :: cs) H3 hn F) 0 0 0 5 ?_
  rintro _ _ ⟨rfl, rfl⟩
  show Own.W l Z _ K _ h 0 0 5 #[.val (.ref t), .val (.int key), .val v, .unset] [(.int ((Own.pr n (Own.s0 n key) D).toInt32))]
  refine Own.W.istoreN ok d_prog_7_method_4_5 6 #[.val (.ref t), .val (.int key), .val v, .val (.int ((Own.pr n (Own.s0 n key) D).toInt32))] rfl ?_
  refine Own.W.aloadN ok d_prog_7_method_4_6 7 rfl rfl ?_
  refine Own.W.getF ok tb 45 rfl Via.refl (H3.fld (i := 0) (j := 2) rfl rfl) d_prog_7_method_4_7 10 ?_
  refine Own.W.iloadN ok d_prog_7_method_4_10 11 rfl ?_
  cases hb : Hf (Own.pr n (Own.s0 n key) D) with
  | false =>
    refine Own.W.zald ok H3 (i := 2) rfl (Own.nng hn (Own.pr_lt hn _ _)) (show _ = some (Value.int (0 : Int32)) from Own.getZ hn (Own.pr_lt hn _ _) hb) d_prog_7_method_4_11 12 ?_
    refine Own.W.ifF ok d_prog_7_method_4_12 15 (by decide : (0 : Int32) = (0 : Int32)) ?_
    refine Own.W.aloadN ok d_prog_7_method_4_15 16 rfl rfl ?_
    refine Own.W.getF ok tb 45 rfl Via.refl (H3.fld (i := 0) (j := 2) rfl rfl) d_prog_7_method_4_16 19 ?_
    refine Own.W.iloadN ok d_prog_7_method_4_19 20 rfl ?_
    refine Own.W.iconst ok d_prog_7_method_4_20 21 (1 : Int32) rfl ?_
    refine Own.W.zast ok H3 (i := 2) rfl (Own.nng hn (Own.pr_lt hn _ _)) (Own.ltL hn (Own.pr_lt hn _ _)) (1 : Int32) (by decide) d_prog_7_method_4_21 22 ((t, o_IT (.ref ka) (.ref va) (.ref ha) (.int (zz.toInt32))) :: (ka, .inr (.int, kk, (Own.tK n Kf))) :: (ha, .inr (.boolean, kh, (Own.tH n (Own.fs Hf (Own.pr n (Own.s0 n key) D) true)))) :: (va, .inr ((.object "java/lang/Object"), kv, (Own.tab n Vf))) :: cs) (by rw [Own.setZ hn (Own.pr_lt hn _ _)]; rfl) (fun h4 H5 => ?_)
    refine Own.W.aloadN ok d_prog_7_method_4_22 23 rfl rfl ?_
    refine Own.W.getF ok tb 38 rfl Via.refl (H5.fld (i := 0) (j := 0) rfl rfl) d_prog_7_method_4_23 26 ?_
    refine Own.W.iloadN ok d_prog_7_method_4_26 27 rfl ?_
    refine Own.W.iloadN ok d_prog_7_method_4_27 28 rfl ?_
    refine Own.W.iast ok H5 (i := 1) rfl (Own.nng hn (Own.pr_lt hn _ _)) (Own.ltL hn (Own.pr_lt hn _ _)) d_prog_7_method_4_28 29 ((t, o_IT (.ref ka) (.ref va) (.ref ha) (.int (zz.toInt32))) :: (ka, .inr (.int, kk, (Own.tK n (Own.fs Kf (Own.pr n (Own.s0 n key) D) key)))) :: (ha, .inr (.boolean, kh, (Own.tH n (Own.fs Hf (Own.pr n (Own.s0 n key) D) true)))) :: (va, .inr ((.object "java/lang/Object"), kv, (Own.tab n Vf))) :: cs) (by rw [Own.setK hn (Own.pr_lt hn _ _)]; rfl) (fun h6 H7 => ?_)
    refine Own.W.aloadN ok d_prog_7_method_4_29 30 rfl rfl ?_
    refine Own.W.dup ok d_prog_7_method_4_30 31 rfl ?_
    refine Own.W.getF ok tb 57 rfl Via.refl (H7.fld (i := 0) (j := 3) rfl rfl) d_prog_7_method_4_31 34 ?_
    refine Own.W.iconst ok d_prog_7_method_4_34 35 (1 : Int32) rfl ?_
    refine Own.W.iaddV ok d_prog_7_method_4_35 36 ((zz + 1).toInt32) (Own.sucI zz) ?_
    refine Own.W.putF ok tb H7 (i := 0) (j := 3) (ty := .int) (w' := (.int ((zz + 1).toInt32))) rfl rfl 57 32 rfl rfl Via.refl (Or.inl (tb _ (List.mem_of_getElem? (i := 58) rfl))) (Own.Lay.of (nw_IT tb) rfl) (by decide) rfl rfl d_prog_7_method_4_36 39 ((t, o_IT (.ref ka) (.ref va) (.ref ha) (.int ((zz + 1).toInt32))) :: (ka, .inr (.int, kk, (Own.tK n (Own.fs Kf (Own.pr n (Own.s0 n key) D) key)))) :: (ha, .inr (.boolean, kh, (Own.tH n (Own.fs Hf (Own.pr n (Own.s0 n key) D) true)))) :: (va, .inr ((.object "java/lang/Object"), kv, (Own.tab n Vf))) :: cs) rfl (fun h8 H9 => ?_)
    refine Own.W.aloadN ok d_prog_7_method_4_39 40 rfl rfl ?_
    refine Own.W.getF ok tb 42 rfl Via.refl (H9.fld (i := 0) (j := 1) rfl rfl) d_prog_7_method_4_40 43 ?_
    refine Own.W.iloadN ok d_prog_7_method_4_43 44 rfl ?_
    refine Own.W.aloadN ok d_prog_7_method_4_44 45 rfl hv.ref ?_
    refine Own.W.aast ok H9 (i := 3) rfl (Own.nng hn (Own.pr_lt hn _ _)) (Own.ltL hn (Own.pr_lt hn _ _)) (Own.VOK.sto H9 (i := 3) rfl Ov (fun q hq => List.mem_cons_of_mem _ (List.mem_cons_of_mem _ (List.mem_cons_of_mem _ (List.mem_cons_of_mem _ (hsub q hq))))) hv (tb _ (List.mem_of_getElem? (i := 59) rfl))) d_prog_7_method_4_45 46 ((t, o_IT (.ref ka) (.ref va) (.ref ha) (.int ((zz + 1).toInt32))) :: (ka, .inr (.int, kk, (Own.tK n (Own.fs Kf (Own.pr n (Own.s0 n key) D) key)))) :: (ha, .inr (.boolean, kh, (Own.tH n (Own.fs Hf (Own.pr n (Own.s0 n key) D) true)))) :: (va, .inr ((.object "java/lang/Object"), kv, (Own.tab n (Own.fs Vf (Own.pr n (Own.s0 n key) D) v)))) :: cs) (by rw [Own.setV hn (Own.pr_lt hn _ _)]; rfl) (fun h10 H11 => ?_)
    refine Own.W.iconst ok d_prog_7_method_4_46 47 (2 : Int32) rfl ?_
    refine Own.W.aloadN ok d_prog_7_method_4_47 48 rfl rfl ?_
    refine Own.W.getF ok tb 57 rfl Via.refl (H11.fld (i := 0) (j := 3) rfl rfl) d_prog_7_method_4_48 51 ?_
    refine Own.W.imul ok d_prog_7_method_4_51 52 ?_
    refine Own.W.aloadN ok d_prog_7_method_4_52 53 rfl rfl ?_
    refine Own.W.getF ok tb 38 rfl Via.refl (H11.fld (i := 0) (j := 0) rfl rfl) d_prog_7_method_4_53 56 ?_
    refine Own.W.alen ok H11 (i := 1) rfl d_prog_7_method_4_56 57 (n.toInt32) Own.lenK ?_
    refine Own.W.icmpT ok d_prog_7_method_4_57 64 (Own.sz_le hn (by rcases hn with e | e <;> omega)) ?_
    exact Own.W.vret ok d_prog_7_method_4_64 ⟨ka, va, ha, kk, kv, kh, n, Own.fs Kf (Own.pr n (Own.s0 n key) D) key, Own.fs Hf (Own.pr n (Own.s0 n key) D) true, Own.fs Vf (Own.pr n (Own.s0 n key) D) v, zz + 1, rfl, ((((H11.pull 2 ((ha, .inr (.boolean, kh, (Own.tH n (Own.fs Hf (Own.pr n (Own.s0 n key) D) true)))) :: (t, o_IT (.ref ka) (.ref va) (.ref ha) (.int ((zz + 1).toInt32))) :: (ka, .inr (.int, kk, (Own.tK n (Own.fs Kf (Own.pr n (Own.s0 n key) D) key)))) :: (va, .inr ((.object "java/lang/Object"), kv, (Own.tab n (Own.fs Vf (Own.pr n (Own.s0 n key) D) v)))) :: cs) rfl rfl).pull 3 ((va, .inr ((.object "java/lang/Object"), kv, (Own.tab n (Own.fs Vf (Own.pr n (Own.s0 n key) D) v)))) :: (ha, .inr (.boolean, kh, (Own.tH n (Own.fs Hf (Own.pr n (Own.s0 n key) D) true)))) :: (t, o_IT (.ref ka) (.ref va) (.ref ha) (.int ((zz + 1).toInt32))) :: (ka, .inr (.int, kk, (Own.tK n (Own.fs Kf (Own.pr n (Own.s0 n key) D) key)))) :: cs) rfl rfl).pull 3 ((ka, .inr (.int, kk, (Own.tK n (Own.fs Kf (Own.pr n (Own.s0 n key) D) key)))) :: (va, .inr ((.object "java/lang/Object"), kv, (Own.tab n (Own.fs Vf (Own.pr n (Own.s0 n key) D) v)))) :: (ha, .inr (.boolean, kh, (Own.tH n (Own.fs Hf (Own.pr n (Own.s0 n key) D) true)))) :: (t, o_IT (.ref ka) (.ref va) (.ref ha) (.int ((zz + 1).toInt32))) :: cs) rfl rfl).pull 3 ((t, o_IT (.ref ka) (.ref va) (.ref ha) (.int ((zz + 1).toInt32))) :: (ka, .inr (.int, kk, (Own.tK n (Own.fs Kf (Own.pr n (Own.s0 n key) D) key)))) :: (va, .inr ((.object "java/lang/Object"), kv, (Own.tab n (Own.fs Vf (Own.pr n (Own.s0 n key) D) v)))) :: (ha, .inr (.boolean, kh, (Own.tH n (Own.fs Hf (Own.pr n (Own.s0 n key) D) true)))) :: cs) rfl rfl), ⟨hn, Own.inv_put hn I F hb, Nat.le_trans Own.cnt_set (by omega), by omega, (by rcases hn with e | e <;> omega), Own.rep_new hn I F R hb⟩, Nat.le_refl _, Own.VOK.fs hV hv, Ov⟩
  | true =>
    have hk : Kf (Own.pr n (Own.s0 n key) D) = key := by
      rcases F.2.1 with q | q
      · rw [hb] at q; cases q
      · exact q
    refine Own.W.zald ok H3 (i := 2) rfl (Own.nng hn (Own.pr_lt hn _ _)) (show _ = some (Value.int (1 : Int32)) from Own.getZ hn (Own.pr_lt hn _ _) hb) d_prog_7_method_4_11 12 ?_
    refine Own.W.ifT ok d_prog_7_method_4_12 39 (by decide : ¬ ((1 : Int32) = (0 : Int32))) ?_
    refine Own.W.aloadN ok d_prog_7_method_4_39 40 rfl rfl ?_
    refine Own.W.getF ok tb 42 rfl Via.refl (H3.fld (i := 0) (j := 1) rfl rfl) d_prog_7_method_4_40 43 ?_
    refine Own.W.iloadN ok d_prog_7_method_4_43 44 rfl ?_
    refine Own.W.aloadN ok d_prog_7_method_4_44 45 rfl hv.ref ?_
    refine Own.W.aast ok H3 (i := 3) rfl (Own.nng hn (Own.pr_lt hn _ _)) (Own.ltL hn (Own.pr_lt hn _ _)) (Own.VOK.sto H3 (i := 3) rfl Ov (fun q hq => List.mem_cons_of_mem _ (List.mem_cons_of_mem _ (List.mem_cons_of_mem _ (List.mem_cons_of_mem _ (hsub q hq))))) hv (tb _ (List.mem_of_getElem? (i := 59) rfl))) d_prog_7_method_4_45 46 ((t, o_IT (.ref ka) (.ref va) (.ref ha) (.int (zz.toInt32))) :: (ka, .inr (.int, kk, (Own.tK n Kf))) :: (ha, .inr (.boolean, kh, (Own.tH n Hf))) :: (va, .inr ((.object "java/lang/Object"), kv, (Own.tab n (Own.fs Vf (Own.pr n (Own.s0 n key) D) v)))) :: cs) (by rw [Own.setV hn (Own.pr_lt hn _ _)]; rfl) (fun h12 H13 => ?_)
    refine Own.W.iconst ok d_prog_7_method_4_46 47 (2 : Int32) rfl ?_
    refine Own.W.aloadN ok d_prog_7_method_4_47 48 rfl rfl ?_
    refine Own.W.getF ok tb 57 rfl Via.refl (H13.fld (i := 0) (j := 3) rfl rfl) d_prog_7_method_4_48 51 ?_
    refine Own.W.imul ok d_prog_7_method_4_51 52 ?_
    refine Own.W.aloadN ok d_prog_7_method_4_52 53 rfl rfl ?_
    refine Own.W.getF ok tb 38 rfl Via.refl (H13.fld (i := 0) (j := 0) rfl rfl) d_prog_7_method_4_53 56 ?_
    refine Own.W.alen ok H13 (i := 1) rfl d_prog_7_method_4_56 57 (n.toInt32) Own.lenK ?_
    refine Own.W.icmpT ok d_prog_7_method_4_57 64 (Own.sz_le hn h2) ?_
    exact Own.W.vret ok d_prog_7_method_4_64 ⟨ka, va, ha, kk, kv, kh, n, Kf, Hf, Own.fs Vf (Own.pr n (Own.s0 n key) D) v, zz, rfl, ((((H13.pull 2 ((ha, .inr (.boolean, kh, (Own.tH n Hf))) :: (t, o_IT (.ref ka) (.ref va) (.ref ha) (.int (zz.toInt32))) :: (ka, .inr (.int, kk, (Own.tK n Kf))) :: (va, .inr ((.object "java/lang/Object"), kv, (Own.tab n (Own.fs Vf (Own.pr n (Own.s0 n key) D) v)))) :: cs) rfl rfl).pull 3 ((va, .inr ((.object "java/lang/Object"), kv, (Own.tab n (Own.fs Vf (Own.pr n (Own.s0 n key) D) v)))) :: (ha, .inr (.boolean, kh, (Own.tH n Hf))) :: (t, o_IT (.ref ka) (.ref va) (.ref ha) (.int (zz.toInt32))) :: (ka, .inr (.int, kk, (Own.tK n Kf))) :: cs) rfl rfl).pull 3 ((ka, .inr (.int, kk, (Own.tK n Kf))) :: (va, .inr ((.object "java/lang/Object"), kv, (Own.tab n (Own.fs Vf (Own.pr n (Own.s0 n key) D) v)))) :: (ha, .inr (.boolean, kh, (Own.tH n Hf))) :: (t, o_IT (.ref ka) (.ref va) (.ref ha) (.int (zz.toInt32))) :: cs) rfl rfl).pull 3 ((t, o_IT (.ref ka) (.ref va) (.ref ha) (.int (zz.toInt32))) :: (ka, .inr (.int, kk, (Own.tK n Kf))) :: (va, .inr ((.object "java/lang/Object"), kv, (Own.tab n (Own.fs Vf (Own.pr n (Own.s0 n key) D) v)))) :: (ha, .inr (.boolean, kh, (Own.tH n Hf))) :: cs) rfl rfl), ⟨hn, I, hc, h9, h2, Own.rep_hit hn I R hb hk⟩, Nat.le_succ _, Own.VOK.fs hV hv, Ov⟩
set_option maxRecDepth 65536 in
set_option maxHeartbeats 4000000 in
theorem c_putB (l : Launch) {Z : State} {a0 : Array Value} (tb : Own.Tb Z a0 tables_1) (t : Addr) (ka : Addr) (va : Addr) (ha : Addr) (kk : ClassId) (kv : ClassId) (kh : ClassId) (n : Nat) (Kf : Nat → Int32) (Hf : Nat → Bool) (Vf : Nat → Value) (zz : Nat) (key : Int32) (v : Value) (m : Int32 → Option Value) (tl : List (Addr × Own.Pc)) (h : Heap) (cs : List (Addr × Own.Pc)) (H : Own.HS Z h ((t, o_IT (.ref ka) (.ref va) (.ref ha) (.int (zz.toInt32))) :: (ka, .inr (.int, kk, (Own.tK n Kf))) :: (va, .inr ((.object "java/lang/Object"), kv, (Own.tab n Vf))) :: (ha, .inr (.boolean, kh, (Own.tH n Hf))) :: cs)) (T : Own.TI n Kf Hf Vf zz m) (hz : zz ≤ 8) (hv : Own.VOK tl v) (hV : ∀ j, Own.VOK tl (Vf j)) (hsub : ∀ q ∈ tl, q ∈ cs) (Ov : Ovr Z kv "java/lang/Object") :
    Own.Con l Z (⟨"com/example/trellis/trellis/IntTable", "put", "(ILjava/lang/Object;)V"⟩ : MethodName) prog_7_method_4_code 4 none ({ frames := 2, cells := 3, slots := 96, locals := 48 } : Room) #[(.ref t), (.int key), v] h (fun rr h' => ∃ (ka2 : Addr) (va2 : Addr) (ha2 : Addr) (kk2 : ClassId) (kv2 : ClassId) (kh2 : ClassId) (n2 : Nat) (K2 : Nat → Int32) (H2 : Nat → Bool) (V2 : Nat → Value) (z2 : Nat), rr = none ∧ Own.HS Z h' ((t, o_IT (.ref ka2) (.ref va2) (.ref ha2) (.int (z2.toInt32))) :: (ka2, .inr (.int, kk2, (Own.tK n2 K2))) :: (va2, .inr ((.object "java/lang/Object"), kv2, (Own.tab n2 V2))) :: (ha2, .inr (.boolean, kh2, (Own.tH n2 H2))) :: cs) ∧ Own.TI n2 K2 H2 V2 z2 (Own.upd m key v) ∧ z2 ≤ zz + 1 ∧ (∀ j, Own.VOK tl (V2 j)) ∧ Ovr Z kv2 "java/lang/Object") := by
  refine Own.Con.of (plainFor_of_name (by first | (simp [plainName, overriddenIn]; done) | decide +kernel)) #[.val (.ref t), .val (.int key), .val v, .unset] (fun m => by rcases ref_cases hv.ref with e | ⟨_, e⟩ <;> rw [e] <;> first | rfl | (simp [entryFrame, mkF, argsToLocals, Value.category, maxLocals]; done)) (fun K ok => ?_)
  obtain ⟨hn, I, hc, h9, h2, R⟩ := T
  obtain ⟨D, F⟩ := Own.fst_ex (K := Kf) hn (Own.TI.cnt_lt ⟨hn, I, hc, h9, h2, R⟩) key
  refine Own.W.aloadN ok d_prog_7_method_4_0 1 rfl rfl ?_
  refine Own.W.iloadN ok d_prog_7_method_4_1 2 rfl ?_
  have H1 : Own.HS Z h ((ha, .inr (.boolean, kh, (Own.tH n Hf))) :: (t, o_IT (.ref ka) (.ref va) (.ref ha) (.int (zz.toInt32))) :: (ka, .inr (.int, kk, (Own.tK n Kf))) :: (va, .inr ((.object "java/lang/Object"), kv, (Own.tab n Vf))) :: cs) := H.pull 3 _ rfl rfl
  have H2 : Own.HS Z h ((ka, .inr (.int, kk, (Own.tK n Kf))) :: (ha, .inr (.boolean, kh, (Own.tH n Hf))) :: (t, o_IT (.ref ka) (.ref va) (.ref ha) (.int (zz.toInt32))) :: (va, .inr ((.object "java/lang/Object"), kv, (Own.tab n Vf))) :: cs) := H1.pull 2 _ rfl rfl
  have H3 : Own.HS Z h ((t, o_IT (.ref ka) (.ref va) (.ref ha) (.int (zz.toInt32))) :: (ka, .inr (.int, kk, (Own.tK n Kf))) :: (ha, .inr (.boolean, kh, (Own.tH n Hf))) :: (va, .inr ((.object "java/lang/Object"), kv, (Own.tab n Vf))) :: cs) := H2.pull 2 _ rfl rfl
  refine Own.W.callQ ok tb (a := t) (argsL := [(.int key)]) (rest := []) 52 53 32 54 55 33 rfl rfl rfl rfl rfl rfl (H3.exa (i := 0) rfl) d_prog_7_method_4_2 pd_0 (c_slot l tb t ka va ha kk kv kh n Kf Hf Vf (zz.toInt32) key D h ((va, .inr ((.object "java/lang/Object"), kv, (Own.tab n Vf))) :: cs) H3 hn F) 0 0 0 5 ?_
  rintro _ _ ⟨rfl, rfl⟩
  show Own.W l Z _ K _ h 0 0 5 #[.val (.ref t), .val (.int key), .val v, .unset] [(.int ((Own.pr n (Own.s0 n key) D).toInt32))]
  refine Own.W.istoreN ok d_prog_7_method_4_5 6 #[.val (.ref t), .val (.int key), .val v, .val (.int ((Own.pr n (Own.s0 n key) D).toInt32))] rfl ?_
  refine Own.W.aloadN ok d_prog_7_method_4_6 7 rfl rfl ?_
  refine Own.W.getF ok tb 45 rfl Via.refl (H3.fld (i := 0) (j := 2) rfl rfl) d_prog_7_method_4_7 10 ?_
  refine Own.W.iloadN ok d_prog_7_method_4_10 11 rfl ?_
  cases hb : Hf (Own.pr n (Own.s0 n key) D) with
  | false =>
    refine Own.W.zald ok H3 (i := 2) rfl (Own.nng hn (Own.pr_lt hn _ _)) (show _ = some (Value.int (0 : Int32)) from Own.getZ hn (Own.pr_lt hn _ _) hb) d_prog_7_method_4_11 12 ?_
    refine Own.W.ifF ok d_prog_7_method_4_12 15 (by decide : (0 : Int32) = (0 : Int32)) ?_
    refine Own.W.aloadN ok d_prog_7_method_4_15 16 rfl rfl ?_
    refine Own.W.getF ok tb 45 rfl Via.refl (H3.fld (i := 0) (j := 2) rfl rfl) d_prog_7_method_4_16 19 ?_
    refine Own.W.iloadN ok d_prog_7_method_4_19 20 rfl ?_
    refine Own.W.iconst ok d_prog_7_method_4_20 21 (1 : Int32) rfl ?_
    refine Own.W.zast ok H3 (i := 2) rfl (Own.nng hn (Own.pr_lt hn _ _)) (Own.ltL hn (Own.pr_lt hn _ _)) (1 : Int32) (by decide) d_prog_7_method_4_21 22 ((t, o_IT (.ref ka) (.ref va) (.ref ha) (.int (zz.toInt32))) :: (ka, .inr (.int, kk, (Own.tK n Kf))) :: (ha, .inr (.boolean, kh, (Own.tH n (Own.fs Hf (Own.pr n (Own.s0 n key) D) true)))) :: (va, .inr ((.object "java/lang/Object"), kv, (Own.tab n Vf))) :: cs) (by rw [Own.setZ hn (Own.pr_lt hn _ _)]; rfl) (fun h4 H5 => ?_)
    refine Own.W.aloadN ok d_prog_7_method_4_22 23 rfl rfl ?_
    refine Own.W.getF ok tb 38 rfl Via.refl (H5.fld (i := 0) (j := 0) rfl rfl) d_prog_7_method_4_23 26 ?_
    refine Own.W.iloadN ok d_prog_7_method_4_26 27 rfl ?_
    refine Own.W.iloadN ok d_prog_7_method_4_27 28 rfl ?_
    refine Own.W.iast ok H5 (i := 1) rfl (Own.nng hn (Own.pr_lt hn _ _)) (Own.ltL hn (Own.pr_lt hn _ _)) d_prog_7_method_4_28 29 ((t, o_IT (.ref ka) (.ref va) (.ref ha) (.int (zz.toInt32))) :: (ka, .inr (.int, kk, (Own.tK n (Own.fs Kf (Own.pr n (Own.s0 n key) D) key)))) :: (ha, .inr (.boolean, kh, (Own.tH n (Own.fs Hf (Own.pr n (Own.s0 n key) D) true)))) :: (va, .inr ((.object "java/lang/Object"), kv, (Own.tab n Vf))) :: cs) (by rw [Own.setK hn (Own.pr_lt hn _ _)]; rfl) (fun h6 H7 => ?_)
    refine Own.W.aloadN ok d_prog_7_method_4_29 30 rfl rfl ?_
    refine Own.W.dup ok d_prog_7_method_4_30 31 rfl ?_
    refine Own.W.getF ok tb 57 rfl Via.refl (H7.fld (i := 0) (j := 3) rfl rfl) d_prog_7_method_4_31 34 ?_
    refine Own.W.iconst ok d_prog_7_method_4_34 35 (1 : Int32) rfl ?_
    refine Own.W.iaddV ok d_prog_7_method_4_35 36 ((zz + 1).toInt32) (Own.sucI zz) ?_
    refine Own.W.putF ok tb H7 (i := 0) (j := 3) (ty := .int) (w' := (.int ((zz + 1).toInt32))) rfl rfl 57 32 rfl rfl Via.refl (Or.inl (tb _ (List.mem_of_getElem? (i := 58) rfl))) (Own.Lay.of (nw_IT tb) rfl) (by decide) rfl rfl d_prog_7_method_4_36 39 ((t, o_IT (.ref ka) (.ref va) (.ref ha) (.int ((zz + 1).toInt32))) :: (ka, .inr (.int, kk, (Own.tK n (Own.fs Kf (Own.pr n (Own.s0 n key) D) key)))) :: (ha, .inr (.boolean, kh, (Own.tH n (Own.fs Hf (Own.pr n (Own.s0 n key) D) true)))) :: (va, .inr ((.object "java/lang/Object"), kv, (Own.tab n Vf))) :: cs) rfl (fun h8 H9 => ?_)
    refine Own.W.aloadN ok d_prog_7_method_4_39 40 rfl rfl ?_
    refine Own.W.getF ok tb 42 rfl Via.refl (H9.fld (i := 0) (j := 1) rfl rfl) d_prog_7_method_4_40 43 ?_
    refine Own.W.iloadN ok d_prog_7_method_4_43 44 rfl ?_
    refine Own.W.aloadN ok d_prog_7_method_4_44 45 rfl hv.ref ?_
    refine Own.W.aast ok H9 (i := 3) rfl (Own.nng hn (Own.pr_lt hn _ _)) (Own.ltL hn (Own.pr_lt hn _ _)) (Own.VOK.sto H9 (i := 3) rfl Ov (fun q hq => List.mem_cons_of_mem _ (List.mem_cons_of_mem _ (List.mem_cons_of_mem _ (List.mem_cons_of_mem _ (hsub q hq))))) hv (tb _ (List.mem_of_getElem? (i := 59) rfl))) d_prog_7_method_4_45 46 ((t, o_IT (.ref ka) (.ref va) (.ref ha) (.int ((zz + 1).toInt32))) :: (ka, .inr (.int, kk, (Own.tK n (Own.fs Kf (Own.pr n (Own.s0 n key) D) key)))) :: (ha, .inr (.boolean, kh, (Own.tH n (Own.fs Hf (Own.pr n (Own.s0 n key) D) true)))) :: (va, .inr ((.object "java/lang/Object"), kv, (Own.tab n (Own.fs Vf (Own.pr n (Own.s0 n key) D) v)))) :: cs) (by rw [Own.setV hn (Own.pr_lt hn _ _)]; rfl) (fun h10 H11 => ?_)
    refine Own.W.iconst ok d_prog_7_method_4_46 47 (2 : Int32) rfl ?_
    refine Own.W.aloadN ok d_prog_7_method_4_47 48 rfl rfl ?_
    refine Own.W.getF ok tb 57 rfl Via.refl (H11.fld (i := 0) (j := 3) rfl rfl) d_prog_7_method_4_48 51 ?_
    refine Own.W.imul ok d_prog_7_method_4_51 52 ?_
    refine Own.W.aloadN ok d_prog_7_method_4_52 53 rfl rfl ?_
    refine Own.W.getF ok tb 38 rfl Via.refl (H11.fld (i := 0) (j := 0) rfl rfl) d_prog_7_method_4_53 56 ?_
    refine Own.W.alen ok H11 (i := 1) rfl d_prog_7_method_4_56 57 (n.toInt32) Own.lenK ?_
    by_cases hg : 2 * (zz + 1) ≤ n
    · refine Own.W.icmpT ok d_prog_7_method_4_57 64 (Own.sz_le hn hg) ?_
      exact Own.W.vret ok d_prog_7_method_4_64 ⟨ka, va, ha, kk, kv, kh, n, Own.fs Kf (Own.pr n (Own.s0 n key) D) key, Own.fs Hf (Own.pr n (Own.s0 n key) D) true, Own.fs Vf (Own.pr n (Own.s0 n key) D) v, zz + 1, rfl, ((((H11.pull 2 ((ha, .inr (.boolean, kh, (Own.tH n (Own.fs Hf (Own.pr n (Own.s0 n key) D) true)))) :: (t, o_IT (.ref ka) (.ref va) (.ref ha) (.int ((zz + 1).toInt32))) :: (ka, .inr (.int, kk, (Own.tK n (Own.fs Kf (Own.pr n (Own.s0 n key) D) key)))) :: (va, .inr ((.object "java/lang/Object"), kv, (Own.tab n (Own.fs Vf (Own.pr n (Own.s0 n key) D) v)))) :: cs) rfl rfl).pull 3 ((va, .inr ((.object "java/lang/Object"), kv, (Own.tab n (Own.fs Vf (Own.pr n (Own.s0 n key) D) v)))) :: (ha, .inr (.boolean, kh, (Own.tH n (Own.fs Hf (Own.pr n (Own.s0 n key) D) true)))) :: (t, o_IT (.ref ka) (.ref va) (.ref ha) (.int ((zz + 1).toInt32))) :: (ka, .inr (.int, kk, (Own.tK n (Own.fs Kf (Own.pr n (Own.s0 n key) D) key)))) :: cs) rfl rfl).pull 3 ((ka, .inr (.int, kk, (Own.tK n (Own.fs Kf (Own.pr n (Own.s0 n key) D) key)))) :: (va, .inr ((.object "java/lang/Object"), kv, (Own.tab n (Own.fs Vf (Own.pr n (Own.s0 n key) D) v)))) :: (ha, .inr (.boolean, kh, (Own.tH n (Own.fs Hf (Own.pr n (Own.s0 n key) D) true)))) :: (t, o_IT (.ref ka) (.ref va) (.ref ha) (.int ((zz + 1).toInt32))) :: cs) rfl rfl).pull 3 ((t, o_IT (.ref ka) (.ref va) (.ref ha) (.int ((zz + 1).toInt32))) :: (ka, .inr (.int, kk, (Own.tK n (Own.fs Kf (Own.pr n (Own.s0 n key) D) key)))) :: (va, .inr ((.object "java/lang/Object"), kv, (Own.tab n (Own.fs Vf (Own.pr n (Own.s0 n key) D) v)))) :: (ha, .inr (.boolean, kh, (Own.tH n (Own.fs Hf (Own.pr n (Own.s0 n key) D) true)))) :: cs) rfl rfl), ⟨hn, Own.inv_put hn I F hb, Nat.le_trans Own.cnt_set (by omega), by omega, hg, Own.rep_new hn I F R hb⟩, Nat.le_refl _, Own.VOK.fs hV hv, Ov⟩
    · have e8 : zz = 8 := by rcases hn with e | e <;> omega
      have e16 : n = 16 := by rcases hn with e | e <;> omega
      subst e8 e16
      refine Own.W.icmpF ok d_prog_7_method_4_57 60 (by decide : (16 : Nat).toInt32 < (2 : Int32) * (8 + 1 : Nat).toInt32) ?_
      refine Own.W.aloadN ok d_prog_7_method_4_60 61 rfl rfl ?_
      have H12 : Own.HS Z h10 ((ha, .inr (.boolean, kh, (Own.tH 16 (Own.fs Hf (Own.pr 16 (Own.s0 16 key) D) true)))) :: (t, o_IT (.ref ka) (.ref va) (.ref ha) (.int (9 : Int32))) :: (ka, .inr (.int, kk, (Own.tK 16 (Own.fs Kf (Own.pr 16 (Own.s0 16 key) D) key)))) :: (va, .inr ((.object "java/lang/Object"), kv, (Own.tab 16 (Own.fs Vf (Own.pr 16 (Own.s0 16 key) D) v)))) :: cs) := H11.pull 2 _ rfl rfl
      have H13 : Own.HS Z h10 ((va, .inr ((.object "java/lang/Object"), kv, (Own.tab 16 (Own.fs Vf (Own.pr 16 (Own.s0 16 key) D) v)))) :: (ha, .inr (.boolean, kh, (Own.tH 16 (Own.fs Hf (Own.pr 16 (Own.s0 16 key) D) true)))) :: (t, o_IT (.ref ka) (.ref va) (.ref ha) (.int (9 : Int32))) :: (ka, .inr (.int, kk, (Own.tK 16 (Own.fs Kf (Own.pr 16 (Own.s0 16 key) D) key)))) :: cs) := H12.pull 3 _ rfl rfl
      have H14 : Own.HS Z h10 ((ka, .inr (.int, kk, (Own.tK 16 (Own.fs Kf (Own.pr 16 (Own.s0 16 key) D) key)))) :: (va, .inr ((.object "java/lang/Object"), kv, (Own.tab 16 (Own.fs Vf (Own.pr 16 (Own.s0 16 key) D) v)))) :: (ha, .inr (.boolean, kh, (Own.tH 16 (Own.fs Hf (Own.pr 16 (Own.s0 16 key) D) true)))) :: (t, o_IT (.ref ka) (.ref va) (.ref ha) (.int (9 : Int32))) :: cs) := H13.pull 3 _ rfl rfl
      have H15 : Own.HS Z h10 ((t, o_IT (.ref ka) (.ref va) (.ref ha) (.int (9 : Int32))) :: (ka, .inr (.int, kk, (Own.tK 16 (Own.fs Kf (Own.pr 16 (Own.s0 16 key) D) key)))) :: (va, .inr ((.object "java/lang/Object"), kv, (Own.tab 16 (Own.fs Vf (Own.pr 16 (Own.s0 16 key) D) v)))) :: (ha, .inr (.boolean, kh, (Own.tH 16 (Own.fs Hf (Own.pr 16 (Own.s0 16 key) D) true)))) :: cs) := H14.pull 3 _ rfl rfl
      refine Own.W.callQ ok tb (a := t) (argsL := []) (rest := []) 78 79 32 80 81 33 rfl rfl rfl rfl rfl rfl (H15.exa (i := 0) rfl) d_prog_7_method_4_61 pd_1 (c_grow l tb t ka va ha kk kv kh (Own.fs Kf (Own.pr 16 (Own.s0 16 key) D) key) (Own.fs Hf (Own.pr 16 (Own.s0 16 key) D) true) (Own.fs Vf (Own.pr 16 (Own.s0 16 key) D) v) (Own.upd m key v) tl h10 (cs) H15 (Own.inv_put hn I F hb) (Own.rep_new hn I F R hb) (Own.VOK.fs hV hv) hsub) 0 3 96 64 ?_
      rintro _ h16 ⟨ka18, va19, ha20, kk21, kv22, kh23, K24, H25, V26, rfl, H17, hq27, hq28, hq29⟩
      show Own.W l Z _ K _ h16 3 96 64 #[.val (.ref t), .val (.int key), .val v, .val (.int ((Own.pr 16 (Own.s0 16 key) D).toInt32))] []
      exact Own.W.vret ok d_prog_7_method_4_64 ⟨ka18, va19, ha20, kk21, kv22, kh23, 32, K24, H25, V26, 9, rfl, H17, hq27, Nat.le_refl _, hq28, hq29⟩
  | true =>
    have hk : Kf (Own.pr n (Own.s0 n key) D) = key := by
      rcases F.2.1 with q | q
      · rw [hb] at q; cases q
      · exact q
    refine Own.W.zald ok H3 (i := 2) rfl (Own.nng hn (Own.pr_lt hn _ _)) (show _ = some (Value.int (1 : Int32)) from Own.getZ hn (Own.pr_lt hn _ _) hb) d_prog_7_method_4_11 12 ?_
    refine Own.W.ifT ok d_prog_7_method_4_12 39 (by decide : ¬ ((1 : Int32) = (0 : Int32))) ?_
    refine Own.W.aloadN ok d_prog_7_method_4_39 40 rfl rfl ?_
    refine Own.W.getF ok tb 42 rfl Via.refl (H3.fld (i := 0) (j := 1) rfl rfl) d_prog_7_method_4_40 43 ?_
    refine Own.W.iloadN ok d_prog_7_method_4_43 44 rfl ?_
    refine Own.W.aloadN ok d_prog_7_method_4_44 45 rfl hv.ref ?_
    refine Own.W.aast ok H3 (i := 3) rfl (Own.nng hn (Own.pr_lt hn _ _)) (Own.ltL hn (Own.pr_lt hn _ _)) (Own.VOK.sto H3 (i := 3) rfl Ov (fun q hq => List.mem_cons_of_mem _ (List.mem_cons_of_mem _ (List.mem_cons_of_mem _ (List.mem_cons_of_mem _ (hsub q hq))))) hv (tb _ (List.mem_of_getElem? (i := 59) rfl))) d_prog_7_method_4_45 46 ((t, o_IT (.ref ka) (.ref va) (.ref ha) (.int (zz.toInt32))) :: (ka, .inr (.int, kk, (Own.tK n Kf))) :: (ha, .inr (.boolean, kh, (Own.tH n Hf))) :: (va, .inr ((.object "java/lang/Object"), kv, (Own.tab n (Own.fs Vf (Own.pr n (Own.s0 n key) D) v)))) :: cs) (by rw [Own.setV hn (Own.pr_lt hn _ _)]; rfl) (fun h30 H31 => ?_)
    refine Own.W.iconst ok d_prog_7_method_4_46 47 (2 : Int32) rfl ?_
    refine Own.W.aloadN ok d_prog_7_method_4_47 48 rfl rfl ?_
    refine Own.W.getF ok tb 57 rfl Via.refl (H31.fld (i := 0) (j := 3) rfl rfl) d_prog_7_method_4_48 51 ?_
    refine Own.W.imul ok d_prog_7_method_4_51 52 ?_
    refine Own.W.aloadN ok d_prog_7_method_4_52 53 rfl rfl ?_
    refine Own.W.getF ok tb 38 rfl Via.refl (H31.fld (i := 0) (j := 0) rfl rfl) d_prog_7_method_4_53 56 ?_
    refine Own.W.alen ok H31 (i := 1) rfl d_prog_7_method_4_56 57 (n.toInt32) Own.lenK ?_
    refine Own.W.icmpT ok d_prog_7_method_4_57 64 (Own.sz_le hn h2) ?_
    exact Own.W.vret ok d_prog_7_method_4_64 ⟨ka, va, ha, kk, kv, kh, n, Kf, Hf, Own.fs Vf (Own.pr n (Own.s0 n key) D) v, zz, rfl, ((((H31.pull 2 ((ha, .inr (.boolean, kh, (Own.tH n Hf))) :: (t, o_IT (.ref ka) (.ref va) (.ref ha) (.int (zz.toInt32))) :: (ka, .inr (.int, kk, (Own.tK n Kf))) :: (va, .inr ((.object "java/lang/Object"), kv, (Own.tab n (Own.fs Vf (Own.pr n (Own.s0 n key) D) v)))) :: cs) rfl rfl).pull 3 ((va, .inr ((.object "java/lang/Object"), kv, (Own.tab n (Own.fs Vf (Own.pr n (Own.s0 n key) D) v)))) :: (ha, .inr (.boolean, kh, (Own.tH n Hf))) :: (t, o_IT (.ref ka) (.ref va) (.ref ha) (.int (zz.toInt32))) :: (ka, .inr (.int, kk, (Own.tK n Kf))) :: cs) rfl rfl).pull 3 ((ka, .inr (.int, kk, (Own.tK n Kf))) :: (va, .inr ((.object "java/lang/Object"), kv, (Own.tab n (Own.fs Vf (Own.pr n (Own.s0 n key) D) v)))) :: (ha, .inr (.boolean, kh, (Own.tH n Hf))) :: (t, o_IT (.ref ka) (.ref va) (.ref ha) (.int (zz.toInt32))) :: cs) rfl rfl).pull 3 ((t, o_IT (.ref ka) (.ref va) (.ref ha) (.int (zz.toInt32))) :: (ka, .inr (.int, kk, (Own.tK n Kf))) :: (va, .inr ((.object "java/lang/Object"), kv, (Own.tab n (Own.fs Vf (Own.pr n (Own.s0 n key) D) v)))) :: (ha, .inr (.boolean, kh, (Own.tH n Hf))) :: cs) rfl rfl), ⟨hn, I, hc, h9, h2, Own.rep_hit hn I R hb hk⟩, Nat.le_succ _, Own.VOK.fs hV hv, Ov⟩
set_option maxRecDepth 65536 in
set_option maxHeartbeats 4000000 in
theorem c_get (l : Launch) {Z : State} {a0 : Array Value} (tb : Own.Tb Z a0 tables_1) (t : Addr) (ka : Addr) (va : Addr) (ha : Addr) (kk : ClassId) (kv : ClassId) (kh : ClassId) (n : Nat) (Kf : Nat → Int32) (Hf : Nat → Bool) (Vf : Nat → Value) (zz : Nat) (key : Int32) (m : Int32 → Option Value) (tl : List (Addr × Own.Pc)) (h : Heap) (cs : List (Addr × Own.Pc)) (H : Own.HS Z h ((t, o_IT (.ref ka) (.ref va) (.ref ha) (.int (zz.toInt32))) :: (ka, .inr (.int, kk, (Own.tK n Kf))) :: (va, .inr ((.object "java/lang/Object"), kv, (Own.tab n Vf))) :: (ha, .inr (.boolean, kh, (Own.tH n Hf))) :: cs)) (T : Own.TI n Kf Hf Vf zz m) (hV : ∀ j, Own.VOK tl (Vf j)) :
    Own.Con l Z (⟨"com/example/trellis/trellis/IntTable", "get", "(I)Ljava/lang/Object;"⟩ : MethodName) prog_7_method_2_code 3 (some (.object "java/lang/Object")) ({ frames := 1, cells := 0, slots := 0, locals := 20 } : Room) #[(.ref t), (.int key)] h (fun rr h' => rr = some (Own.gv m key) ∧ h = h' ∧ Own.VOK tl (Own.gv m key)) := by
  refine Own.Con.of (plainFor_of_name (by first | (simp [plainName, overriddenIn]; done) | decide +kernel)) #[.val (.ref t), .val (.int key), .unset] (fun m => by first | rfl | (simp [entryFrame, mkF, argsToLocals, Value.category, maxLocals]; done)) (fun K ok => ?_)
  obtain ⟨hn, I, hc, h9, h2, R⟩ := T
  obtain ⟨D, F⟩ := Own.fst_ex (K := Kf) hn (Own.TI.cnt_lt ⟨hn, I, hc, h9, h2, R⟩) key
  have hg := Own.rep_get hn I F R
  refine Own.W.aloadN ok d_prog_7_method_2_0 1 rfl rfl ?_
  refine Own.W.iloadN ok d_prog_7_method_2_1 2 rfl ?_
  have H1 : Own.HS Z h ((ha, .inr (.boolean, kh, (Own.tH n Hf))) :: (t, o_IT (.ref ka) (.ref va) (.ref ha) (.int (zz.toInt32))) :: (ka, .inr (.int, kk, (Own.tK n Kf))) :: (va, .inr ((.object "java/lang/Object"), kv, (Own.tab n Vf))) :: cs) := H.pull 3 _ rfl rfl
  have H2 : Own.HS Z h ((ka, .inr (.int, kk, (Own.tK n Kf))) :: (ha, .inr (.boolean, kh, (Own.tH n Hf))) :: (t, o_IT (.ref ka) (.ref va) (.ref ha) (.int (zz.toInt32))) :: (va, .inr ((.object "java/lang/Object"), kv, (Own.tab n Vf))) :: cs) := H1.pull 2 _ rfl rfl
  have H3 : Own.HS Z h ((t, o_IT (.ref ka) (.ref va) (.ref ha) (.int (zz.toInt32))) :: (ka, .inr (.int, kk, (Own.tK n Kf))) :: (ha, .inr (.boolean, kh, (Own.tH n Hf))) :: (va, .inr ((.object "java/lang/Object"), kv, (Own.tab n Vf))) :: cs) := H2.pull 2 _ rfl rfl
  refine Own.W.callQ ok tb (a := t) (argsL := [(.int key)]) (rest := []) 52 53 32 54 55 33 rfl rfl rfl rfl rfl rfl (H3.exa (i := 0) rfl) d_prog_7_method_2_2 pd_0 (c_slot l tb t ka va ha kk kv kh n Kf Hf Vf (zz.toInt32) key D h ((va, .inr ((.object "java/lang/Object"), kv, (Own.tab n Vf))) :: cs) H3 hn F) 0 0 0 5 ?_
  rintro _ _ ⟨rfl, rfl⟩
  show Own.W l Z _ K _ h 0 0 5 #[.val (.ref t), .val (.int key), .unset] [(.int ((Own.pr n (Own.s0 n key) D).toInt32))]
  refine Own.W.istoreN ok d_prog_7_method_2_5 6 #[.val (.ref t), .val (.int key), .val (.int ((Own.pr n (Own.s0 n key) D).toInt32))] rfl ?_
  refine Own.W.aloadN ok d_prog_7_method_2_6 7 rfl rfl ?_
  refine Own.W.getF ok tb 45 rfl Via.refl (H3.fld (i := 0) (j := 2) rfl rfl) d_prog_7_method_2_7 10 ?_
  refine Own.W.iloadN ok d_prog_7_method_2_10 11 rfl ?_
  cases hb : Hf (Own.pr n (Own.s0 n key) D) with
  | false =>
    refine Own.W.zald ok H3 (i := 2) rfl (Own.nng hn (Own.pr_lt hn _ _)) (show _ = some (Value.int (0 : Int32)) from Own.getZ hn (Own.pr_lt hn _ _) hb) d_prog_7_method_2_11 12 ?_
    refine Own.W.ifT ok d_prog_7_method_2_12 24 (by decide : (0 : Int32) = (0 : Int32)) ?_
    refine Own.W.aconstNull ok d_prog_7_method_2_24 25 ?_
    exact Own.W.aret ok d_prog_7_method_2_25 ⟨by rw [Own.gv_none (hg.2 hb)], rfl, by rw [Own.gv_none (hg.2 hb)]; exact Or.inl rfl⟩
  | true =>
    refine Own.W.zald ok H3 (i := 2) rfl (Own.nng hn (Own.pr_lt hn _ _)) (show _ = some (Value.int (1 : Int32)) from Own.getZ hn (Own.pr_lt hn _ _) hb) d_prog_7_method_2_11 12 ?_
    refine Own.W.ifF ok d_prog_7_method_2_12 15 (by decide : ¬ ((1 : Int32) = (0 : Int32))) ?_
    refine Own.W.aloadN ok d_prog_7_method_2_15 16 rfl rfl ?_
    refine Own.W.getF ok tb 42 rfl Via.refl (H3.fld (i := 0) (j := 1) rfl rfl) d_prog_7_method_2_16 19 ?_
    refine Own.W.iloadN ok d_prog_7_method_2_19 20 rfl ?_
    refine Own.W.aald ok H3 (i := 3) rfl (Own.nng hn (Own.pr_lt hn _ _)) (Own.getV hn (Own.pr_lt hn _ _)) d_prog_7_method_2_20 21 ?_
    refine Own.W.goto ok d_prog_7_method_2_21 25 ?_
    exact Own.W.aret ok d_prog_7_method_2_25 ⟨by rw [Own.gv_some (hg.1 hb)], rfl, by rw [Own.gv_some (hg.1 hb)]; exact hV _⟩ (by rcases ref_cases (hV (Own.pr n (Own.s0 n key) D)).ref with e | ⟨_, e⟩ <;> rw [e] <;> rfl) rfl (hV (Own.pr n (Own.s0 n key) D)).ref
set_option maxRecDepth 65536 in
set_option maxHeartbeats 4000000 in
theorem c_has (l : Launch) {Z : State} {a0 : Array Value} (tb : Own.Tb Z a0 tables_1) (t : Addr) (ka : Addr) (va : Addr) (ha : Addr) (kk : ClassId) (kv : ClassId) (kh : ClassId) (n : Nat) (Kf : Nat → Int32) (Hf : Nat → Bool) (Vf : Nat → Value) (zz : Nat) (key : Int32) (m : Int32 → Option Value) (tl : List (Addr × Own.Pc)) (h : Heap) (cs : List (Addr × Own.Pc)) (H : Own.HS Z h ((t, o_IT (.ref ka) (.ref va) (.ref ha) (.int (zz.toInt32))) :: (ka, .inr (.int, kk, (Own.tK n Kf))) :: (va, .inr ((.object "java/lang/Object"), kv, (Own.tab n Vf))) :: (ha, .inr (.boolean, kh, (Own.tH n Hf))) :: cs)) (T : Own.TI n Kf Hf Vf zz m) (hV : ∀ j, Own.VOK tl (Vf j)) :
    Own.Con l Z (⟨"com/example/trellis/trellis/IntTable", "containsKey", "(I)Z"⟩ : MethodName) prog_7_method_3_code 2 (some .boolean) ({ frames := 1, cells := 0, slots := 0, locals := 20 } : Room) #[(.ref t), (.int key)] h (fun rr h' => rr = some (.int (Own.bz (m key).isSome)) ∧ h = h') := by
  refine Own.Con.of (plainFor_of_name (by first | (simp [plainName, overriddenIn]; done) | decide +kernel)) #[.val (.ref t), .val (.int key)] (fun m => by first | rfl | (simp [entryFrame, mkF, argsToLocals, Value.category, maxLocals]; done)) (fun K ok => ?_)
  obtain ⟨hn, I, hc, h9, h2, R⟩ := T
  obtain ⟨D, F⟩ := Own.fst_ex (K := Kf) hn (Own.TI.cnt_lt ⟨hn, I, hc, h9, h2, R⟩) key
  have hg := Own.rep_get hn I F R
  refine Own.W.aloadN ok d_prog_7_method_3_0 1 rfl rfl ?_
  refine Own.W.getF ok tb 45 rfl Via.refl (H.fld (i := 0) (j := 2) rfl rfl) d_prog_7_method_3_1 4 ?_
  refine Own.W.aloadN ok d_prog_7_method_3_4 5 rfl rfl ?_
  refine Own.W.iloadN ok d_prog_7_method_3_5 6 rfl ?_
  have H1 : Own.HS Z h ((ha, .inr (.boolean, kh, (Own.tH n Hf))) :: (t, o_IT (.ref ka) (.ref va) (.ref ha) (.int (zz.toInt32))) :: (ka, .inr (.int, kk, (Own.tK n Kf))) :: (va, .inr ((.object "java/lang/Object"), kv, (Own.tab n Vf))) :: cs) := H.pull 3 _ rfl rfl
  have H2 : Own.HS Z h ((ka, .inr (.int, kk, (Own.tK n Kf))) :: (ha, .inr (.boolean, kh, (Own.tH n Hf))) :: (t, o_IT (.ref ka) (.ref va) (.ref ha) (.int (zz.toInt32))) :: (va, .inr ((.object "java/lang/Object"), kv, (Own.tab n Vf))) :: cs) := H1.pull 2 _ rfl rfl
  have H3 : Own.HS Z h ((t, o_IT (.ref ka) (.ref va) (.ref ha) (.int (zz.toInt32))) :: (ka, .inr (.int, kk, (Own.tK n Kf))) :: (ha, .inr (.boolean, kh, (Own.tH n Hf))) :: (va, .inr ((.object "java/lang/Object"), kv, (Own.tab n Vf))) :: cs) := H2.pull 2 _ rfl rfl
  refine Own.W.callQ ok tb (a := t) (argsL := [(.int key)]) (rest := [(.ref ha)]) 52 53 32 54 55 33 rfl rfl rfl rfl rfl rfl (H3.exa (i := 0) rfl) d_prog_7_method_3_6 pd_0 (c_slot l tb t ka va ha kk kv kh n Kf Hf Vf (zz.toInt32) key D h ((va, .inr ((.object "java/lang/Object"), kv, (Own.tab n Vf))) :: cs) H3 hn F) 1 0 0 9 ?_
  rintro _ _ ⟨rfl, rfl⟩
  show Own.W l Z _ K _ h 0 0 9 #[.val (.ref t), .val (.int key)] [(.int ((Own.pr n (Own.s0 n key) D).toInt32)), (.ref ha)]
  cases hb : Hf (Own.pr n (Own.s0 n key) D) with
  | false =>
    refine Own.W.zald ok H3 (i := 2) rfl (Own.nng hn (Own.pr_lt hn _ _)) (show _ = some (Value.int (0 : Int32)) from Own.getZ hn (Own.pr_lt hn _ _) hb) d_prog_7_method_3_9 10 ?_
    exact Own.W.iret ok d_prog_7_method_3_10 rfl ⟨by rw [hg.2 hb]; rfl, rfl⟩
  | true =>
    refine Own.W.zald ok H3 (i := 2) rfl (Own.nng hn (Own.pr_lt hn _ _)) (show _ = some (Value.int (1 : Int32)) from Own.getZ hn (Own.pr_lt hn _ _) hb) d_prog_7_method_3_9 10 ?_
    exact Own.W.iret ok d_prog_7_method_3_10 rfl ⟨by rw [hg.1 hb]; rfl, rfl⟩
set_option maxRecDepth 65536 in
set_option maxHeartbeats 4000000 in
theorem c_tini (l : Launch) {Z : State} {a0 : Array Value} (tb : Own.Tb Z a0 tables_1) (t : Addr) (h : Heap) (cs : List (Addr × Own.Pc)) (H : Own.HS Z h ((t, o_IT .null .null .null (.int (0 : Int32))) :: cs)) :
    Own.Con l Z (⟨"com/example/trellis/trellis/IntTable", "<init>", "()V"⟩ : MethodName) prog_7_method_1_code 1 none ({ frames := 1, cells := 3, slots := 48, locals := 16 } : Room) #[(.ref t)] h (fun rr h' => ∃ (ka2 : Addr) (va2 : Addr) (ha2 : Addr) (kk2 : ClassId) (kv2 : ClassId) (kh2 : ClassId), rr = none ∧ Own.HS Z h' ((t, o_IT (.ref ka2) (.ref va2) (.ref ha2) (.int (0 : Int32))) :: (ka2, .inr (.int, kk2, (Own.tK 16 (fun _ => 0)))) :: (va2, .inr ((.object "java/lang/Object"), kv2, (Own.tab 16 (fun _ => .null)))) :: (ha2, .inr (.boolean, kh2, (Own.tH 16 (fun _ => false)))) :: cs) ∧ Ovr Z kv2 "java/lang/Object") := by
  refine Own.Con.of (plainFor_of_name (by first | (simp [plainName, overriddenIn]; done) | decide +kernel)) #[.val (.ref t)] (fun m => by first | rfl | (simp [entryFrame, mkF, argsToLocals, Value.category, maxLocals]; done)) (fun K ok => ?_)
  refine Own.W.aloadN ok d_prog_7_method_1_0 1 rfl rfl ?_
  refine Own.W.initO ok tb 37 26 27 rfl rfl rfl d_prog_7_method_1_1 0 4 ?_
  refine Own.W.aloadN ok d_prog_7_method_1_4 5 rfl rfl ?_
  refine Own.W.bipush ok d_prog_7_method_1_5 7 (16 : Int32) rfl ?_
  refine Own.W.newP ok tb H 0 rfl d_prog_7_method_1_7 16 (Own.tK 16 (fun _ => 0)) rfl 1 16 9 (by decide) (by decide) (fun a1 k2 h3 H4 => ?_)
  show Own.W l Z _ K _ h3 1 16 9 #[.val (.ref t)] [(.ref a1), (.ref t)]
  refine Own.W.putF ok tb H4 (i := 1) (j := 0) (ty := (.array .int)) (w' := (.ref a1)) rfl rfl 38 32 rfl rfl Via.refl (Or.inl (tb _ (List.mem_of_getElem? (i := 39) rfl))) (Own.Lay.of (nw_IT tb) rfl) (by decide) rfl rfl d_prog_7_method_1_9 12 ((a1, .inr (.int, k2, (Own.tK 16 (fun _ => 0)))) :: (t, o_IT (.ref a1) .null .null (.int (0 : Int32))) :: cs) rfl (fun h5 H6 => ?_)
  refine Own.W.aloadN ok d_prog_7_method_1_12 13 rfl rfl ?_
  refine Own.W.bipush ok d_prog_7_method_1_13 15 (16 : Int32) rfl ?_
  refine Own.W.newR ok tb H6 40 41 rfl rfl d_prog_7_method_1_15 16 (Own.tab 16 (fun _ => .null)) rfl 2 32 18 (by decide) (by decide) (fun a7 k8 h9 O11 H10 => ?_)
  show Own.W l Z _ K _ h9 2 32 18 #[.val (.ref t)] [(.ref a7), (.ref t)]
  refine Own.W.putF ok tb H10 (i := 2) (j := 1) (ty := (.array (.object "java/lang/Object"))) (w' := (.ref a7)) rfl rfl 42 32 rfl rfl Via.refl (Or.inl (tb _ (List.mem_of_getElem? (i := 43) rfl))) (Own.Lay.of (nw_IT tb) rfl) (by decide) rfl rfl d_prog_7_method_1_18 21 ((a7, .inr ((.object "java/lang/Object"), k8, (Own.tab 16 (fun _ => .null)))) :: (a1, .inr (.int, k2, (Own.tK 16 (fun _ => 0)))) :: (t, o_IT (.ref a1) (.ref a7) .null (.int (0 : Int32))) :: cs) rfl (fun h12 H13 => ?_)
  refine Own.W.aloadN ok d_prog_7_method_1_21 22 rfl rfl ?_
  refine Own.W.bipush ok d_prog_7_method_1_22 24 (16 : Int32) rfl ?_
  refine Own.W.newP ok tb H13 44 rfl d_prog_7_method_1_24 16 (Own.tH 16 (fun _ => false)) rfl 3 48 26 (by decide) (by decide) (fun a14 k15 h16 H17 => ?_)
  show Own.W l Z _ K _ h16 3 48 26 #[.val (.ref t)] [(.ref a14), (.ref t)]
  refine Own.W.putF ok tb H17 (i := 3) (j := 2) (ty := (.array .boolean)) (w' := (.ref a14)) rfl rfl 45 32 rfl rfl Via.refl (Or.inl (tb _ (List.mem_of_getElem? (i := 46) rfl))) (Own.Lay.of (nw_IT tb) rfl) (by decide) rfl rfl d_prog_7_method_1_26 29 ((a14, .inr (.boolean, k15, (Own.tH 16 (fun _ => false)))) :: (a7, .inr ((.object "java/lang/Object"), k8, (Own.tab 16 (fun _ => .null)))) :: (a1, .inr (.int, k2, (Own.tK 16 (fun _ => 0)))) :: (t, o_IT (.ref a1) (.ref a7) (.ref a14) (.int (0 : Int32))) :: cs) rfl (fun h18 H19 => ?_)
  exact Own.W.vret ok d_prog_7_method_1_29 ⟨a1, a7, a14, k2, k8, k15, rfl, (((H19.pull 1 ((a7, .inr ((.object "java/lang/Object"), k8, (Own.tab 16 (fun _ => .null)))) :: (a14, .inr (.boolean, k15, (Own.tH 16 (fun _ => false)))) :: (a1, .inr (.int, k2, (Own.tK 16 (fun _ => 0)))) :: (t, o_IT (.ref a1) (.ref a7) (.ref a14) (.int (0 : Int32))) :: cs) rfl rfl).pull 2 ((a1, .inr (.int, k2, (Own.tK 16 (fun _ => 0)))) :: (a7, .inr ((.object "java/lang/Object"), k8, (Own.tab 16 (fun _ => .null)))) :: (a14, .inr (.boolean, k15, (Own.tH 16 (fun _ => false)))) :: (t, o_IT (.ref a1) (.ref a7) (.ref a14) (.int (0 : Int32))) :: cs) rfl rfl).pull 3 ((t, o_IT (.ref a1) (.ref a7) (.ref a14) (.int (0 : Int32))) :: (a1, .inr (.int, k2, (Own.tK 16 (fun _ => 0)))) :: (a7, .inr ((.object "java/lang/Object"), k8, (Own.tab 16 (fun _ => .null)))) :: (a14, .inr (.boolean, k15, (Own.tH 16 (fun _ => false)))) :: cs) rfl rfl), O11⟩
set_option maxRecDepth 65536 in
set_option maxHeartbeats 4000000 in
theorem c_num (l : Launch) {Z : State} {a0 : Array Value} (tb : Own.Tb Z a0 tables_1) (a : Addr) (h : Heap) :
    Own.Con l Z (⟨"java/lang/Number", "<init>", "()V"⟩ : MethodName) jdk_18_method_1_code 1 none ({ frames := 1, cells := 0, slots := 0, locals := 12 } : Room) #[(.ref a)] h (fun rr h' => rr = none ∧ h = h') := by
  refine Own.Con.of (plainFor_of_name (by first | (simp [plainName, overriddenIn]; done) | decide +kernel)) #[.val (.ref a)] (fun m => by first | rfl | (simp [entryFrame, mkF, argsToLocals, Value.category, maxLocals]; done)) (fun K ok => ?_)
  refine Own.W.aloadN ok d_jdk_18_method_1_0 1 rfl rfl ?_
  refine Own.W.initO ok tb 25 26 27 rfl rfl rfl d_jdk_18_method_1_1 0 4 ?_
  exact Own.W.vret ok d_jdk_18_method_1_4 ⟨rfl, rfl⟩
set_option maxRecDepth 65536 in
set_option maxHeartbeats 4000000 in
theorem c_inti (l : Launch) {Z : State} {a0 : Array Value} (tb : Own.Tb Z a0 tables_1) (a : Addr) (q : Int32) (h : Heap) (cs : List (Addr × Own.Pc)) (H : Own.HS Z h ((a, o_Int (.int (0 : Int32))) :: cs)) :
    Own.Con l Z (⟨"java/lang/Integer", "<init>", "(I)V"⟩ : MethodName) jdk_33_method_23_code 2 none ({ frames := 2, cells := 0, slots := 0, locals := 24 } : Room) #[(.ref a), (.int q)] h (fun rr h' => rr = none ∧ Own.HS Z h' ((a, o_Int (.int q)) :: cs)) := by
  refine Own.Con.of (plainFor_of_name (by first | (simp [plainName, overriddenIn]; done) | decide +kernel)) #[.val (.ref a), .val (.int q)] (fun m => by first | rfl | (simp [entryFrame, mkF, argsToLocals, Value.category, maxLocals]; done)) (fun K ok => ?_)
  refine Own.W.aloadN ok d_jdk_33_method_23_0 1 rfl rfl ?_
  refine Own.W.callI ok tb (a := a) (argsL := []) (rest := []) 19 20 23 24 rfl rfl rfl rfl d_jdk_33_method_23_1 pd_1 (c_num l tb a h) 0 0 0 4 ?_
  rintro _ _ ⟨rfl, rfl⟩
  show Own.W l Z _ K _ h 0 0 4 #[.val (.ref a), .val (.int q)] []
  refine Own.W.aloadN ok d_jdk_33_method_23_4 5 rfl rfl ?_
  refine Own.W.iloadN ok d_jdk_33_method_23_5 6 rfl ?_
  refine Own.W.putF ok tb H (i := 0) (j := 0) (ty := .int) (w' := (.int q)) rfl rfl 28 14 rfl rfl Via.refl (Or.inr ⟨(tb _ (List.mem_of_getElem? (i := 29) rfl)), rfl, rfl⟩) (Own.Lay.of (nw_Int tb) rfl) (by decide) rfl rfl d_jdk_33_method_23_6 9 ((a, o_Int (.int q)) :: cs) rfl (fun h1 H2 => ?_)
  exact Own.W.vret ok d_jdk_33_method_23_9 ⟨rfl, H2⟩
set_option maxRecDepth 65536 in
set_option maxHeartbeats 4000000 in
theorem c_vo (l : Launch) {Z : State} {a0 : Array Value} (tb : Own.Tb Z a0 tables_1) (q : Int32) (h : Heap) (cs : List (Addr × Own.Pc)) (H : Own.HS Z h (cs)) (SH : Sta Z Z.heap "java/lang/Integer$IntegerCache" "high" "I" (.int (127 : Int32))) (q1 : ¬ (q < (-128 : Int32))) (q2 : (127 : Int32) < q) :
    Own.Con l Z (⟨"java/lang/Integer", "valueOf", "(I)Ljava/lang/Integer;"⟩ : MethodName) jdk_33_method_22_code 1 (some (.object "java/lang/Integer")) ({ frames := 3, cells := 1, slots := 1, locals := 48 } : Room) #[(.int q)] h (fun rr h' => ∃ (b : Addr), rr = some (.ref b) ∧ Own.HS Z h' ((b, o_Int (.int q)) :: cs)) := by
  refine Own.Con.of (plainFor_of_name (by first | (simp [plainName, overriddenIn]; done) | decide +kernel)) #[.val (.int q)] (fun m => by first | rfl | (simp [entryFrame, mkF, argsToLocals, Value.category, maxLocals]; done)) (fun K ok => ?_)
  refine Own.W.iloadN ok d_jdk_33_method_22_0 1 rfl ?_
  refine Own.W.bipush ok d_jdk_33_method_22_1 3 (-128 : Int32) rfl ?_
  refine Own.W.icmpF ok d_jdk_33_method_22_3 6 q1 ?_
  refine Own.W.iloadN ok d_jdk_33_method_22_6 7 rfl ?_
  refine Own.W.getS ok tb 11 rfl Via.refl (H.sta SH) d_jdk_33_method_22_7 10 ?_
  refine Own.W.icmpT ok d_jdk_33_method_22_10 23 q2 ?_
  refine Own.W.new ok tb H 13 14 9 rfl rfl rfl (nw_Int tb) d_jdk_33_method_22_23 1 1 26 (fun a1 h2 H3 => ?_)
  show Own.W l Z _ K _ h2 1 1 26 #[.val (.int q)] [(.ref a1)]
  refine Own.W.dup ok d_jdk_33_method_22_26 27 rfl ?_
  refine Own.W.iloadN ok d_jdk_33_method_22_27 28 rfl ?_
  refine Own.W.callI ok tb (a := a1) (argsL := [(.int q)]) (rest := [(.ref a1)]) 15 16 9 18 rfl rfl rfl rfl d_jdk_33_method_22_28 pd_2 (c_inti l tb a1 q h2 (cs) H3) 1 1 1 31 ?_
  rintro _ h4 ⟨rfl, H5⟩
  show Own.W l Z _ K _ h4 1 1 31 #[.val (.int q)] [(.ref a1)]
  exact Own.W.aret ok d_jdk_33_method_22_31 ⟨a1, rfl, H5⟩
set_option maxRecDepth 65536 in
set_option maxHeartbeats 4000000 in
theorem c_val (l : Launch) {Z : State} {a0 : Array Value} (tb : Own.Tb Z a0 tables_1) (fl : Int32) (i : Int32) (A : Addr × Own.Pc) (B : Addr × Own.Pc) (h : Heap) (cs : List (Addr × Own.Pc)) (H : Own.HS Z h (A :: B :: cs)) (SH : Sta Z Z.heap "java/lang/Integer$IntegerCache" "high" "I" (.int (127 : Int32))) (q1 : ¬ ((1000 : Int32) + i < (-128 : Int32))) (q2 : (127 : Int32) < (1000 : Int32) + i) :
    Own.Con l Z (⟨"com/example/trellis/trellis/IntTablePutPinLaw", "val", "(II)Ljava/lang/Integer;"⟩ : MethodName) method_3_code 2 (some (.object "java/lang/Integer")) ({ frames := 4, cells := 1, slots := 1, locals := 64 } : Room) #[(.int fl), (.int i)] h (fun rr h' => ∃ (u : Value) (tl2 : List (Addr × Own.Pc)), rr = some u ∧ Own.HS Z h' (A :: B :: tl2) ∧ Own.VOK tl2 u ∧ (∀ w, Own.VOK cs w → Own.VOK tl2 w)) := by
  refine Own.Con.of (plainFor_of_name (by first | (simp [plainName, overriddenIn]; done) | decide +kernel)) #[.val (.int fl), .val (.int i)] (fun m => by first | rfl | (simp [entryFrame, mkF, argsToLocals, Value.category, maxLocals]; done)) (fun K ok => ?_)
  refine Own.W.iloadN ok d_method_3_0 1 rfl ?_
  refine Own.W.iconst ok d_method_3_1 2 (4 : Int32) rfl ?_
  refine Own.W.iloadN ok d_method_3_2 3 rfl ?_
  refine Own.W.iadd ok d_method_3_3 4 ?_
  refine Own.W.iushr ok d_method_3_4 5 ?_
  refine Own.W.iconst ok d_method_3_5 6 (1 : Int32) rfl ?_
  refine Own.W.iand ok d_method_3_6 7 ?_
  refine Own.W.iff ok d_method_3_7 12 10 (fun (hc1 : (((fl.toUInt32 >>> (((4 : Int32) + i) &&& 31).toUInt32).toInt32) &&& (1 : Int32)) = (0 : Int32)) => ?_) (fun (hc1 : ¬ ((((fl.toUInt32 >>> (((4 : Int32) + i) &&& 31).toUInt32).toInt32) &&& (1 : Int32)) = (0 : Int32))) => ?_)
  · refine Own.W.sipush ok d_method_3_12 15 (1000 : Int32) rfl ?_
    refine Own.W.iloadN ok d_method_3_15 16 rfl ?_
    refine Own.W.iadd ok d_method_3_16 17 ?_
    refine Own.W.callS ok tb (argsL := [(.int ((1000 : Int32) + i))]) (rest := []) 7 8 9 10 rfl rfl rfl rfl d_method_3_17 pd_3 (c_vo l tb ((1000 : Int32) + i) h (A :: B :: cs) H SH q1 q2) 0 1 1 20 ?_
    rintro _ h2 ⟨b4, rfl, H3⟩
    show Own.W l Z _ K _ h2 1 1 20 #[.val (.int fl), .val (.int i)] [(.ref b4)]
    exact Own.W.aret ok d_method_3_20 ⟨_, (b4, o_Int (.int ((1000 : Int32) + i))) :: cs, rfl, (H3.pull 2 (B :: (b4, o_Int (.int ((1000 : Int32) + i))) :: A :: cs) rfl rfl).pull 2 (A :: B :: (b4, o_Int (.int ((1000 : Int32) + i))) :: cs) rfl rfl, Or.inr ⟨_, _, rfl, List.mem_cons_self ..⟩, fun _ q => q.mono fun _ m => List.mem_cons_of_mem _ m⟩
  · refine Own.W.aconstNull ok d_method_3_10 11 ?_
    exact Own.W.aret ok d_method_3_11 ⟨_, cs, rfl, H, Or.inl rfl, fun _ q => q⟩
set_option maxRecDepth 65536 in
set_option maxHeartbeats 4000000 in
theorem c_iv (l : Launch) {Z : State} {a0 : Array Value} (tb : Own.Tb Z a0 tables_1) (a : Addr) (q : Int32) (h : Heap) (F : Fld Z h a "java/lang/Integer" "value" "I" (.int q)) :
    Own.Con l Z (⟨"java/lang/Integer", "intValue", "()I"⟩ : MethodName) jdk_33_method_27_code 1 (some .int) ({ frames := 0, cells := 0, slots := 0, locals := 0 } : Room) #[(.ref a)] h (fun rr h' => rr = some (.int q) ∧ h = h') := by
  refine Own.Con.of (plainFor_of_name (by first | (simp [plainName, overriddenIn]; done) | decide +kernel)) #[.val (.ref a)] (fun m => by first | rfl | (simp [entryFrame, mkF, argsToLocals, Value.category, maxLocals]; done)) (fun K ok => ?_)
  refine Own.W.aloadN ok d_jdk_33_method_27_0 1 rfl rfl ?_
  refine Own.W.getF ok tb 28 rfl Via.refl F d_jdk_33_method_27_1 4 ?_
  exact Own.W.iret ok d_jdk_33_method_27_4 rfl ⟨rfl, rfl⟩
set_option maxRecDepth 65536 in
set_option maxHeartbeats 4000000 in
theorem c_same0 (l : Launch) {Z : State} {a0 : Array Value} (tb : Own.Tb Z a0 tables_1)  (h : Heap) :
    Own.Con l Z (⟨"com/example/trellis/trellis/IntTablePutPinLaw", "same", "(Ljava/lang/Integer;Ljava/lang/Integer;)Z"⟩ : MethodName) method_4_code 2 (some .boolean) ({ frames := 0, cells := 0, slots := 0, locals := 0 } : Room) #[.null, .null] h (fun rr h' => rr = some (.int (1 : Int32)) ∧ h = h') := by
  refine Own.Con.of (plainFor_of_name (by first | (simp [plainName, overriddenIn]; done) | decide +kernel)) #[.val .null, .val .null] (fun m => by first | rfl | (simp [entryFrame, mkF, argsToLocals, Value.category, maxLocals]; done)) (fun K ok => ?_)
  refine Own.W.aloadN ok d_method_4_0 1 rfl rfl ?_
  refine Own.W.ifnonnullF ok d_method_4_1 4 ?_
  refine Own.W.aloadN ok d_method_4_4 5 rfl rfl ?_
  refine Own.W.ifnonnullF ok d_method_4_5 8 ?_
  refine Own.W.iconst ok d_method_4_8 9 (1 : Int32) rfl ?_
  refine Own.W.goto ok d_method_4_9 13 ?_
  exact Own.W.iret ok d_method_4_13 rfl ⟨rfl, rfl⟩
set_option maxRecDepth 65536 in
set_option maxHeartbeats 4000000 in
theorem c_same1 (l : Launch) {Z : State} {a0 : Array Value} (tb : Own.Tb Z a0 tables_1) (a : Addr) (q : Int32) (h : Heap) (E : Exa Z h a "java/lang/Integer") (F : Fld Z h a "java/lang/Integer" "value" "I" (.int q)) :
    Own.Con l Z (⟨"com/example/trellis/trellis/IntTablePutPinLaw", "same", "(Ljava/lang/Integer;Ljava/lang/Integer;)Z"⟩ : MethodName) method_4_code 2 (some .boolean) ({ frames := 1, cells := 0, slots := 0, locals := 16 } : Room) #[(.ref a), (.ref a)] h (fun rr h' => rr = some (.int (1 : Int32)) ∧ h = h') := by
  refine Own.Con.of (plainFor_of_name (by first | (simp [plainName, overriddenIn]; done) | decide +kernel)) #[.val (.ref a), .val (.ref a)] (fun m => by first | rfl | (simp [entryFrame, mkF, argsToLocals, Value.category, maxLocals]; done)) (fun K ok => ?_)
  refine Own.W.aloadN ok d_method_4_0 1 rfl rfl ?_
  refine Own.W.ifnonnullT ok d_method_4_1 14 ?_
  refine Own.W.aloadN ok d_method_4_14 15 rfl rfl ?_
  refine Own.W.ifnullF ok d_method_4_15 18 ?_
  refine Own.W.aloadN ok d_method_4_18 19 rfl rfl ?_
  refine Own.W.callV ok tb (a := a) (argsL := []) (rest := []) 73 74 76 75 77 9 rfl rfl rfl rfl rfl rfl (notFace_of_selects (args := #[]) (mvT ok.2.1 (tb _ (List.mem_of_getElem? (i := 76) rfl)))) E d_method_4_19 pd_4 (c_iv l tb a q h F) 0 0 0 22 ?_
  rintro _ _ ⟨rfl, rfl⟩
  show Own.W l Z _ K _ h 0 0 22 #[.val (.ref a), .val (.ref a)] [(.int q)]
  refine Own.W.aloadN ok d_method_4_22 23 rfl rfl ?_
  refine Own.W.callV ok tb (a := a) (argsL := []) (rest := [(.int q)]) 73 74 76 75 77 9 rfl rfl rfl rfl rfl rfl (notFace_of_selects (args := #[]) (mvT ok.2.1 (tb _ (List.mem_of_getElem? (i := 76) rfl)))) E d_method_4_23 pd_4 (c_iv l tb a q h F) 1 0 0 26 ?_
  rintro _ _ ⟨rfl, rfl⟩
  show Own.W l Z _ K _ h 0 0 26 #[.val (.ref a), .val (.ref a)] [(.int q), (.int q)]
  refine Own.W.icmpF ok d_method_4_26 29 (rfl : q = q) ?_
  refine Own.W.iconst ok d_method_4_29 30 (1 : Int32) rfl ?_
  refine Own.W.goto ok d_method_4_30 34 ?_
  exact Own.W.iret ok d_method_4_34 rfl ⟨rfl, rfl⟩
theorem int_at {L : List Int32} {k : Nat} (h : k < L.length) : ∃ x : Int32, (L.map Value.int)[k]? = some (.int x) := ⟨L[k], by simp [h]⟩
theorem s_rng (u : Int32) : 0 ≤ (u &&& 15).toInt := (c_and u 15 (by decide)).1
theorem s_neg (u : Int32) : ¬ ((u &&& 15) < (0 : Int32)) := by
  have := s_rng u
  rw [Int32.lt_iff_toInt_lt]; simp only [Int32.reduceToInt]; omega
theorem s_lt {s : Int32} (h : s < 9) : s.toNatClampNeg < 9 := by
  rw [Int32.lt_iff_toInt_lt] at h; simp only [Int32.reduceToInt] at h; rw [Int32.toNatClampNeg]; omega
theorem Mp_skip {nn : Int32} {ks : Nat → Int32} {vs : Nat → Value} {i : Nat} (h : ¬ (i.toInt32 < nn)) : Own.Mp nn ks vs (i + 1) = Own.Mp nn ks vs i := if_neg h
theorem Mp_put {nn : Int32} {ks : Nat → Int32} {vs : Nat → Value} {i : Nat} (h : i.toInt32 < nn) : Own.Mp nn ks vs (i + 1) = Own.upd (Own.Mp nn ks vs i) (ks i) (vs i) := if_pos h
theorem j_nn {j : Nat} (h : j < 9) : ¬ (j.toInt32 < (0 : Int32)) := (Own.ix (by omega)).2

set_option maxRecDepth 65536 in
set_option maxHeartbeats 4000000 in
theorem c_law (l : Launch) {Z : State} {a0 : Array Value} (tb : Own.Tb Z a0 tables_1) (u0 : Int32) (u1 : Int32) (u2 : Int32) (u3 : Int64) (u4 : Int32) (u5 : Int32) (h : Heap) (cs : List (Addr × Own.Pc)) (H : Own.HS Z h (cs)) (SH : Sta Z Z.heap "java/lang/Integer$IntegerCache" "high" "I" (.int (127 : Int32))) :
    Own.Con l Z x code maxLocals ret room_1 #[(.int u0), (.int u1), (.int u2), (.long u3), (.int u4), (.int u5)] h (fun rr h' => rr = some (.int (1 : Int32)) ∧ True) := by
  refine Own.Con.of (plainFor_of_name (by first | (simp [plainName, overriddenIn]; done) | decide +kernel)) #[.val (.int u0), .val (.int u1), .val (.int u2), .val (.long u3), .second, .val (.int u4), .val (.int u5), .unset, .unset, .unset, .unset, .unset, .unset, .unset, .unset, .unset, .unset, .unset] (fun m => by first | rfl | (simp [entryFrame, mkF, argsToLocals, Value.category, maxLocals]; done)) (fun K ok => ?_)
  refine Own.W.bipush ok at_0 2 (9 : Int32) rfl ?_
  refine Own.W.newP ok tb H 0 rfl at_2 9 [(.int (0 : Int32)), (.int (0 : Int32)), (.int (0 : Int32)), (.int (0 : Int32)), (.int (0 : Int32)), (.int (0 : Int32)), (.int (0 : Int32)), (.int (0 : Int32)), (.int (0 : Int32))] rfl 1 9 4 (by decide) (by decide) (fun a1 k2 h3 H4 => ?_)
  show Own.W l Z _ K _ h3 1 9 4 #[.val (.int u0), .val (.int u1), .val (.int u2), .val (.long u3), .second, .val (.int u4), .val (.int u5), .unset, .unset, .unset, .unset, .unset, .unset, .unset, .unset, .unset, .unset, .unset] [(.ref a1)]
  refine Own.W.astore ok at_4 6 #[.val (.int u0), .val (.int u1), .val (.int u2), .val (.long u3), .second, .val (.int u4), .val (.int u5), .val (.ref a1), .unset, .unset, .unset, .unset, .unset, .unset, .unset, .unset, .unset, .unset] rfl rfl ?_
  refine Own.W.aload ok at_6 8 rfl rfl ?_
  refine Own.W.iconst ok at_8 9 (0 : Int32) rfl ?_
  refine Own.W.iloadN ok at_9 10 rfl ?_
  refine Own.W.iast ok H4 (i := 0) rfl (by decide) (Nat.le_of_ble_eq_true rfl) at_10 11 ((a1, .inr (.int, k2, [(.int u0), (.int (0 : Int32)), (.int (0 : Int32)), (.int (0 : Int32)), (.int (0 : Int32)), (.int (0 : Int32)), (.int (0 : Int32)), (.int (0 : Int32)), (.int (0 : Int32))])) :: cs) rfl (fun h5 H6 => ?_)
  refine Own.W.aload ok at_11 13 rfl rfl ?_
  refine Own.W.iconst ok at_13 14 (1 : Int32) rfl ?_
  refine Own.W.iload ok at_14 16 rfl ?_
  refine Own.W.bipush ok at_16 18 (13 : Int32) rfl ?_
  refine Own.W.iushr ok at_18 19 ?_
  refine Own.W.iconst ok at_19 20 (1 : Int32) rfl ?_
  refine Own.W.iand ok at_20 21 ?_
  have J7 : ∀ (kb : Int32), Own.W l Z room_1 K (fun rr h' => rr = some (.int (1 : Int32)) ∧ True) h5 1 9 29 #[.val (.int u0), .val (.int u1), .val (.int u2), .val (.long u3), .second, .val (.int u4), .val (.int u5), .val (.ref a1), .unset, .unset, .unset, .unset, .unset, .unset, .unset, .unset, .unset, .unset] [(.int kb), (.int (1 : Int32)), (.ref a1)] := by
    intro kb
    refine Own.W.iast ok H6 (i := 0) rfl (by decide) (Nat.le_of_ble_eq_true rfl) at_29 30 ((a1, .inr (.int, k2, [(.int u0), (.int kb), (.int (0 : Int32)), (.int (0 : Int32)), (.int (0 : Int32)), (.int (0 : Int32)), (.int (0 : Int32)), (.int (0 : Int32)), (.int (0 : Int32))])) :: cs) rfl (fun h8 H9 => ?_)
    refine Own.W.aload ok at_30 32 rfl rfl ?_
    refine Own.W.iconst ok at_32 33 (2 : Int32) rfl ?_
    refine Own.W.iloadN ok at_33 34 rfl ?_
    refine Own.W.iast ok H9 (i := 0) rfl (by decide) (Nat.le_of_ble_eq_true rfl) at_34 35 ((a1, .inr (.int, k2, [(.int u0), (.int kb), (.int u2), (.int (0 : Int32)), (.int (0 : Int32)), (.int (0 : Int32)), (.int (0 : Int32)), (.int (0 : Int32)), (.int (0 : Int32))])) :: cs) rfl (fun h10 H11 => ?_)
    refine Own.W.aload ok at_35 37 rfl rfl ?_
    refine Own.W.iconst ok at_37 38 (3 : Int32) rfl ?_
    refine Own.W.lloadN ok at_38 39 rfl ?_
    refine Own.W.l2i ok at_39 40 ?_
    refine Own.W.iast ok H11 (i := 0) rfl (by decide) (Nat.le_of_ble_eq_true rfl) at_40 41 ((a1, .inr (.int, k2, [(.int u0), (.int kb), (.int u2), (.int (u3.toInt32)), (.int (0 : Int32)), (.int (0 : Int32)), (.int (0 : Int32)), (.int (0 : Int32)), (.int (0 : Int32))])) :: cs) rfl (fun h12 H13 => ?_)
    refine Own.W.aload ok at_41 43 rfl rfl ?_
    refine Own.W.iconst ok at_43 44 (4 : Int32) rfl ?_
    refine Own.W.lloadN ok at_44 45 rfl ?_
    refine Own.W.bipush ok at_45 47 (32 : Int32) rfl ?_
    refine Own.W.lushr ok at_47 48 ?_
    refine Own.W.l2i ok at_48 49 ?_
    refine Own.W.iast ok H13 (i := 0) rfl (by decide) (Nat.le_of_ble_eq_true rfl) at_49 50 ((a1, .inr (.int, k2, [(.int u0), (.int kb), (.int u2), (.int (u3.toInt32)), (.int (((u3.toUInt64 >>> ((32 : Int32) &&& 0x3f).toInt64.toUInt64).toInt64).toInt32)), (.int (0 : Int32)), (.int (0 : Int32)), (.int (0 : Int32)), (.int (0 : Int32))])) :: cs) rfl (fun h14 H15 => ?_)
    refine Own.W.aload ok at_50 52 rfl rfl ?_
    refine Own.W.iconst ok at_52 53 (5 : Int32) rfl ?_
    refine Own.W.iloadN ok at_53 54 rfl ?_
    refine Own.W.iconst ok at_54 55 (1 : Int32) rfl ?_
    refine Own.W.iadd ok at_55 56 ?_
    refine Own.W.iast ok H15 (i := 0) rfl (by decide) (Nat.le_of_ble_eq_true rfl) at_56 57 ((a1, .inr (.int, k2, [(.int u0), (.int kb), (.int u2), (.int (u3.toInt32)), (.int (((u3.toUInt64 >>> ((32 : Int32) &&& 0x3f).toInt64.toUInt64).toInt64).toInt32)), (.int (u0 + (1 : Int32))), (.int (0 : Int32)), (.int (0 : Int32)), (.int (0 : Int32))])) :: cs) rfl (fun h16 H17 => ?_)
    refine Own.W.aload ok at_57 59 rfl rfl ?_
    refine Own.W.bipush ok at_59 61 (6 : Int32) rfl ?_
    refine Own.W.iloadN ok at_61 62 rfl ?_
    refine Own.W.iconst ok at_62 63 (1 : Int32) rfl ?_
    refine Own.W.iadd ok at_63 64 ?_
    refine Own.W.iast ok H17 (i := 0) rfl (by decide) (Nat.le_of_ble_eq_true rfl) at_64 65 ((a1, .inr (.int, k2, [(.int u0), (.int kb), (.int u2), (.int (u3.toInt32)), (.int (((u3.toUInt64 >>> ((32 : Int32) &&& 0x3f).toInt64.toUInt64).toInt64).toInt32)), (.int (u0 + (1 : Int32))), (.int (u1 + (1 : Int32))), (.int (0 : Int32)), (.int (0 : Int32))])) :: cs) rfl (fun h18 H19 => ?_)
    refine Own.W.aload ok at_65 67 rfl rfl ?_
    refine Own.W.bipush ok at_67 69 (7 : Int32) rfl ?_
    refine Own.W.iloadN ok at_69 70 rfl ?_
    refine Own.W.iconst ok at_70 71 (1 : Int32) rfl ?_
    refine Own.W.iadd ok at_71 72 ?_
    refine Own.W.iast ok H19 (i := 0) rfl (by decide) (Nat.le_of_ble_eq_true rfl) at_72 73 ((a1, .inr (.int, k2, [(.int u0), (.int kb), (.int u2), (.int (u3.toInt32)), (.int (((u3.toUInt64 >>> ((32 : Int32) &&& 0x3f).toInt64.toUInt64).toInt64).toInt32)), (.int (u0 + (1 : Int32))), (.int (u1 + (1 : Int32))), (.int (u2 + (1 : Int32))), (.int (0 : Int32))])) :: cs) rfl (fun h20 H21 => ?_)
    refine Own.W.aload ok at_73 75 rfl rfl ?_
    refine Own.W.bipush ok at_75 77 (8 : Int32) rfl ?_
    refine Own.W.iload ok at_77 79 rfl ?_
    refine Own.W.iast ok H21 (i := 0) rfl (by decide) (Nat.le_of_ble_eq_true rfl) at_79 80 ((a1, .inr (.int, k2, [(.int u0), (.int kb), (.int u2), (.int (u3.toInt32)), (.int (((u3.toUInt64 >>> ((32 : Int32) &&& 0x3f).toInt64.toUInt64).toInt64).toInt32)), (.int (u0 + (1 : Int32))), (.int (u1 + (1 : Int32))), (.int (u2 + (1 : Int32))), (.int u4)])) :: cs) rfl (fun h22 H23 => ?_)
    refine Own.W.bipush ok at_80 82 (9 : Int32) rfl ?_
    refine Own.W.newR ok tb H23 1 2 rfl rfl at_82 9 [.null, .null, .null, .null, .null, .null, .null, .null, .null] rfl 2 18 85 (by decide) (by decide) (fun a24 k25 h26 O28 H27 => ?_)
    show Own.W l Z _ K _ h26 2 18 85 #[.val (.int u0), .val (.int u1), .val (.int u2), .val (.long u3), .second, .val (.int u4), .val (.int u5), .val (.ref a1), .unset, .unset, .unset, .unset, .unset, .unset, .unset, .unset, .unset, .unset] [(.ref a24)]
    refine Own.W.astore ok at_85 87 #[.val (.int u0), .val (.int u1), .val (.int u2), .val (.long u3), .second, .val (.int u4), .val (.int u5), .val (.ref a1), .val (.ref a24), .unset, .unset, .unset, .unset, .unset, .unset, .unset, .unset, .unset] rfl rfl ?_
    refine Own.W.aload ok at_87 89 rfl rfl ?_
    refine Own.W.iconst ok at_89 90 (0 : Int32) rfl ?_
    refine Own.W.iload ok at_90 92 rfl ?_
    refine Own.W.iconst ok at_92 93 (0 : Int32) rfl ?_
    have H29 : Own.HS Z h26 ((a1, .inr (.int, k2, [(.int u0), (.int kb), (.int u2), (.int (u3.toInt32)), (.int (((u3.toUInt64 >>> ((32 : Int32) &&& 0x3f).toInt64.toUInt64).toInt64).toInt32)), (.int (u0 + (1 : Int32))), (.int (u1 + (1 : Int32))), (.int (u2 + (1 : Int32))), (.int u4)])) :: (a24, .inr ((.object "java/lang/Integer"), k25, [.null, .null, .null, .null, .null, .null, .null, .null, .null])) :: cs) := H27.pull 1 _ rfl rfl
    have H30 : Own.HS Z h26 ((a24, .inr ((.object "java/lang/Integer"), k25, [.null, .null, .null, .null, .null, .null, .null, .null, .null])) :: (a1, .inr (.int, k2, [(.int u0), (.int kb), (.int u2), (.int (u3.toInt32)), (.int (((u3.toUInt64 >>> ((32 : Int32) &&& 0x3f).toInt64.toUInt64).toInt64).toInt32)), (.int (u0 + (1 : Int32))), (.int (u1 + (1 : Int32))), (.int (u2 + (1 : Int32))), (.int u4)])) :: cs) := H29.pull 1 _ rfl rfl
    have H31 : Own.HS Z h26 ((a1, .inr (.int, k2, [(.int u0), (.int kb), (.int u2), (.int (u3.toInt32)), (.int (((u3.toUInt64 >>> ((32 : Int32) &&& 0x3f).toInt64.toUInt64).toInt64).toInt32)), (.int (u0 + (1 : Int32))), (.int (u1 + (1 : Int32))), (.int (u2 + (1 : Int32))), (.int u4)])) :: (a24, .inr ((.object "java/lang/Integer"), k25, [.null, .null, .null, .null, .null, .null, .null, .null, .null])) :: cs) := H30.pull 1 _ rfl rfl
    have H32 : Own.HS Z h26 ((a24, .inr ((.object "java/lang/Integer"), k25, [.null, .null, .null, .null, .null, .null, .null, .null, .null])) :: (a1, .inr (.int, k2, [(.int u0), (.int kb), (.int u2), (.int (u3.toInt32)), (.int (((u3.toUInt64 >>> ((32 : Int32) &&& 0x3f).toInt64.toUInt64).toInt64).toInt32)), (.int (u0 + (1 : Int32))), (.int (u1 + (1 : Int32))), (.int (u2 + (1 : Int32))), (.int u4)])) :: cs) := H31.pull 1 _ rfl rfl
    refine Own.W.callS ok tb (argsL := [(.int u5), (.int (0 : Int32))]) (rest := [(.int (0 : Int32)), (.ref a24)]) 3 4 5 6 rfl rfl rfl rfl at_93 pd_5 (c_val l tb u5 (0 : Int32) (a24, .inr ((.object "java/lang/Integer"), k25, [.null, .null, .null, .null, .null, .null, .null, .null, .null])) (a1, .inr (.int, k2, [(.int u0), (.int kb), (.int u2), (.int (u3.toInt32)), (.int (((u3.toUInt64 >>> ((32 : Int32) &&& 0x3f).toInt64.toUInt64).toInt64).toInt32)), (.int (u0 + (1 : Int32))), (.int (u1 + (1 : Int32))), (.int (u2 + (1 : Int32))), (.int u4)])) h26 (cs) H32 SH (by decide) (by decide)) 2 3 19 96 ?_
    rintro _ h33 ⟨u35, tl36, rfl, H34, hq37, hq38⟩
    show Own.W l Z _ K _ h33 3 19 96 #[.val (.int u0), .val (.int u1), .val (.int u2), .val (.long u3), .second, .val (.int u4), .val (.int u5), .val (.ref a1), .val (.ref a24), .unset, .unset, .unset, .unset, .unset, .unset, .unset, .unset, .unset] [u35, (.int (0 : Int32)), (.ref a24)]
    refine Own.W.aast ok H34 (i := 0) rfl (by decide) (Nat.le_of_ble_eq_true rfl) (Own.VOK.sto H34 (i := 0) rfl O28 (fun q hq => List.mem_cons_of_mem _ (List.mem_cons_of_mem _ (hq))) hq37 (tb _ (List.mem_of_getElem? (i := 17) rfl))) at_96 97 ((a24, .inr ((.object "java/lang/Integer"), k25, [u35, .null, .null, .null, .null, .null, .null, .null, .null])) :: (a1, .inr (.int, k2, [(.int u0), (.int kb), (.int u2), (.int (u3.toInt32)), (.int (((u3.toUInt64 >>> ((32 : Int32) &&& 0x3f).toInt64.toUInt64).toInt64).toInt32)), (.int (u0 + (1 : Int32))), (.int (u1 + (1 : Int32))), (.int (u2 + (1 : Int32))), (.int u4)])) :: tl36) rfl (fun h39 H40 => ?_)
    refine Own.W.aload ok at_97 99 rfl rfl ?_
    refine Own.W.iconst ok at_99 100 (1 : Int32) rfl ?_
    refine Own.W.iload ok at_100 102 rfl ?_
    refine Own.W.iconst ok at_102 103 (1 : Int32) rfl ?_
    have H41 : Own.HS Z h39 ((a1, .inr (.int, k2, [(.int u0), (.int kb), (.int u2), (.int (u3.toInt32)), (.int (((u3.toUInt64 >>> ((32 : Int32) &&& 0x3f).toInt64.toUInt64).toInt64).toInt32)), (.int (u0 + (1 : Int32))), (.int (u1 + (1 : Int32))), (.int (u2 + (1 : Int32))), (.int u4)])) :: (a24, .inr ((.object "java/lang/Integer"), k25, [u35, .null, .null, .null, .null, .null, .null, .null, .null])) :: tl36) := H40.pull 1 _ rfl rfl
    have H42 : Own.HS Z h39 ((a24, .inr ((.object "java/lang/Integer"), k25, [u35, .null, .null, .null, .null, .null, .null, .null, .null])) :: (a1, .inr (.int, k2, [(.int u0), (.int kb), (.int u2), (.int (u3.toInt32)), (.int (((u3.toUInt64 >>> ((32 : Int32) &&& 0x3f).toInt64.toUInt64).toInt64).toInt32)), (.int (u0 + (1 : Int32))), (.int (u1 + (1 : Int32))), (.int (u2 + (1 : Int32))), (.int u4)])) :: tl36) := H41.pull 1 _ rfl rfl
    have H43 : Own.HS Z h39 ((a1, .inr (.int, k2, [(.int u0), (.int kb), (.int u2), (.int (u3.toInt32)), (.int (((u3.toUInt64 >>> ((32 : Int32) &&& 0x3f).toInt64.toUInt64).toInt64).toInt32)), (.int (u0 + (1 : Int32))), (.int (u1 + (1 : Int32))), (.int (u2 + (1 : Int32))), (.int u4)])) :: (a24, .inr ((.object "java/lang/Integer"), k25, [u35, .null, .null, .null, .null, .null, .null, .null, .null])) :: tl36) := H42.pull 1 _ rfl rfl
    have H44 : Own.HS Z h39 ((a24, .inr ((.object "java/lang/Integer"), k25, [u35, .null, .null, .null, .null, .null, .null, .null, .null])) :: (a1, .inr (.int, k2, [(.int u0), (.int kb), (.int u2), (.int (u3.toInt32)), (.int (((u3.toUInt64 >>> ((32 : Int32) &&& 0x3f).toInt64.toUInt64).toInt64).toInt32)), (.int (u0 + (1 : Int32))), (.int (u1 + (1 : Int32))), (.int (u2 + (1 : Int32))), (.int u4)])) :: tl36) := H43.pull 1 _ rfl rfl
    refine Own.W.callS ok tb (argsL := [(.int u5), (.int (1 : Int32))]) (rest := [(.int (1 : Int32)), (.ref a24)]) 3 4 5 6 rfl rfl rfl rfl at_103 pd_5 (c_val l tb u5 (1 : Int32) (a24, .inr ((.object "java/lang/Integer"), k25, [u35, .null, .null, .null, .null, .null, .null, .null, .null])) (a1, .inr (.int, k2, [(.int u0), (.int kb), (.int u2), (.int (u3.toInt32)), (.int (((u3.toUInt64 >>> ((32 : Int32) &&& 0x3f).toInt64.toUInt64).toInt64).toInt32)), (.int (u0 + (1 : Int32))), (.int (u1 + (1 : Int32))), (.int (u2 + (1 : Int32))), (.int u4)])) h39 (tl36) H44 SH (by decide) (by decide)) 2 4 20 106 ?_
    rintro _ h45 ⟨u47, tl48, rfl, H46, hq49, hq50⟩
    show Own.W l Z _ K _ h45 4 20 106 #[.val (.int u0), .val (.int u1), .val (.int u2), .val (.long u3), .second, .val (.int u4), .val (.int u5), .val (.ref a1), .val (.ref a24), .unset, .unset, .unset, .unset, .unset, .unset, .unset, .unset, .unset] [u47, (.int (1 : Int32)), (.ref a24)]
    have hv51 := hq50 _ hq37
    refine Own.W.aast ok H46 (i := 0) rfl (by decide) (Nat.le_of_ble_eq_true rfl) (Own.VOK.sto H46 (i := 0) rfl O28 (fun q hq => List.mem_cons_of_mem _ (List.mem_cons_of_mem _ (hq))) hq49 (tb _ (List.mem_of_getElem? (i := 17) rfl))) at_106 107 ((a24, .inr ((.object "java/lang/Integer"), k25, [u35, u47, .null, .null, .null, .null, .null, .null, .null])) :: (a1, .inr (.int, k2, [(.int u0), (.int kb), (.int u2), (.int (u3.toInt32)), (.int (((u3.toUInt64 >>> ((32 : Int32) &&& 0x3f).toInt64.toUInt64).toInt64).toInt32)), (.int (u0 + (1 : Int32))), (.int (u1 + (1 : Int32))), (.int (u2 + (1 : Int32))), (.int u4)])) :: tl48) rfl (fun h52 H53 => ?_)
    refine Own.W.aload ok at_107 109 rfl rfl ?_
    refine Own.W.iconst ok at_109 110 (2 : Int32) rfl ?_
    refine Own.W.iload ok at_110 112 rfl ?_
    refine Own.W.iconst ok at_112 113 (2 : Int32) rfl ?_
    have H54 : Own.HS Z h52 ((a1, .inr (.int, k2, [(.int u0), (.int kb), (.int u2), (.int (u3.toInt32)), (.int (((u3.toUInt64 >>> ((32 : Int32) &&& 0x3f).toInt64.toUInt64).toInt64).toInt32)), (.int (u0 + (1 : Int32))), (.int (u1 + (1 : Int32))), (.int (u2 + (1 : Int32))), (.int u4)])) :: (a24, .inr ((.object "java/lang/Integer"), k25, [u35, u47, .null, .null, .null, .null, .null, .null, .null])) :: tl48) := H53.pull 1 _ rfl rfl
    have H55 : Own.HS Z h52 ((a24, .inr ((.object "java/lang/Integer"), k25, [u35, u47, .null, .null, .null, .null, .null, .null, .null])) :: (a1, .inr (.int, k2, [(.int u0), (.int kb), (.int u2), (.int (u3.toInt32)), (.int (((u3.toUInt64 >>> ((32 : Int32) &&& 0x3f).toInt64.toUInt64).toInt64).toInt32)), (.int (u0 + (1 : Int32))), (.int (u1 + (1 : Int32))), (.int (u2 + (1 : Int32))), (.int u4)])) :: tl48) := H54.pull 1 _ rfl rfl
    have H56 : Own.HS Z h52 ((a1, .inr (.int, k2, [(.int u0), (.int kb), (.int u2), (.int (u3.toInt32)), (.int (((u3.toUInt64 >>> ((32 : Int32) &&& 0x3f).toInt64.toUInt64).toInt64).toInt32)), (.int (u0 + (1 : Int32))), (.int (u1 + (1 : Int32))), (.int (u2 + (1 : Int32))), (.int u4)])) :: (a24, .inr ((.object "java/lang/Integer"), k25, [u35, u47, .null, .null, .null, .null, .null, .null, .null])) :: tl48) := H55.pull 1 _ rfl rfl
    have H57 : Own.HS Z h52 ((a24, .inr ((.object "java/lang/Integer"), k25, [u35, u47, .null, .null, .null, .null, .null, .null, .null])) :: (a1, .inr (.int, k2, [(.int u0), (.int kb), (.int u2), (.int (u3.toInt32)), (.int (((u3.toUInt64 >>> ((32 : Int32) &&& 0x3f).toInt64.toUInt64).toInt64).toInt32)), (.int (u0 + (1 : Int32))), (.int (u1 + (1 : Int32))), (.int (u2 + (1 : Int32))), (.int u4)])) :: tl48) := H56.pull 1 _ rfl rfl
    refine Own.W.callS ok tb (argsL := [(.int u5), (.int (2 : Int32))]) (rest := [(.int (2 : Int32)), (.ref a24)]) 3 4 5 6 rfl rfl rfl rfl at_113 pd_5 (c_val l tb u5 (2 : Int32) (a24, .inr ((.object "java/lang/Integer"), k25, [u35, u47, .null, .null, .null, .null, .null, .null, .null])) (a1, .inr (.int, k2, [(.int u0), (.int kb), (.int u2), (.int (u3.toInt32)), (.int (((u3.toUInt64 >>> ((32 : Int32) &&& 0x3f).toInt64.toUInt64).toInt64).toInt32)), (.int (u0 + (1 : Int32))), (.int (u1 + (1 : Int32))), (.int (u2 + (1 : Int32))), (.int u4)])) h52 (tl48) H57 SH (by decide) (by decide)) 2 5 21 116 ?_
    rintro _ h58 ⟨u60, tl61, rfl, H59, hq62, hq63⟩
    show Own.W l Z _ K _ h58 5 21 116 #[.val (.int u0), .val (.int u1), .val (.int u2), .val (.long u3), .second, .val (.int u4), .val (.int u5), .val (.ref a1), .val (.ref a24), .unset, .unset, .unset, .unset, .unset, .unset, .unset, .unset, .unset] [u60, (.int (2 : Int32)), (.ref a24)]
    have hv64 := hq63 _ hv51
    have hv65 := hq63 _ hq49
    refine Own.W.aast ok H59 (i := 0) rfl (by decide) (Nat.le_of_ble_eq_true rfl) (Own.VOK.sto H59 (i := 0) rfl O28 (fun q hq => List.mem_cons_of_mem _ (List.mem_cons_of_mem _ (hq))) hq62 (tb _ (List.mem_of_getElem? (i := 17) rfl))) at_116 117 ((a24, .inr ((.object "java/lang/Integer"), k25, [u35, u47, u60, .null, .null, .null, .null, .null, .null])) :: (a1, .inr (.int, k2, [(.int u0), (.int kb), (.int u2), (.int (u3.toInt32)), (.int (((u3.toUInt64 >>> ((32 : Int32) &&& 0x3f).toInt64.toUInt64).toInt64).toInt32)), (.int (u0 + (1 : Int32))), (.int (u1 + (1 : Int32))), (.int (u2 + (1 : Int32))), (.int u4)])) :: tl61) rfl (fun h66 H67 => ?_)
    refine Own.W.aload ok at_117 119 rfl rfl ?_
    refine Own.W.iconst ok at_119 120 (3 : Int32) rfl ?_
    refine Own.W.iload ok at_120 122 rfl ?_
    refine Own.W.iconst ok at_122 123 (3 : Int32) rfl ?_
    have H68 : Own.HS Z h66 ((a1, .inr (.int, k2, [(.int u0), (.int kb), (.int u2), (.int (u3.toInt32)), (.int (((u3.toUInt64 >>> ((32 : Int32) &&& 0x3f).toInt64.toUInt64).toInt64).toInt32)), (.int (u0 + (1 : Int32))), (.int (u1 + (1 : Int32))), (.int (u2 + (1 : Int32))), (.int u4)])) :: (a24, .inr ((.object "java/lang/Integer"), k25, [u35, u47, u60, .null, .null, .null, .null, .null, .null])) :: tl61) := H67.pull 1 _ rfl rfl
    have H69 : Own.HS Z h66 ((a24, .inr ((.object "java/lang/Integer"), k25, [u35, u47, u60, .null, .null, .null, .null, .null, .null])) :: (a1, .inr (.int, k2, [(.int u0), (.int kb), (.int u2), (.int (u3.toInt32)), (.int (((u3.toUInt64 >>> ((32 : Int32) &&& 0x3f).toInt64.toUInt64).toInt64).toInt32)), (.int (u0 + (1 : Int32))), (.int (u1 + (1 : Int32))), (.int (u2 + (1 : Int32))), (.int u4)])) :: tl61) := H68.pull 1 _ rfl rfl
    have H70 : Own.HS Z h66 ((a1, .inr (.int, k2, [(.int u0), (.int kb), (.int u2), (.int (u3.toInt32)), (.int (((u3.toUInt64 >>> ((32 : Int32) &&& 0x3f).toInt64.toUInt64).toInt64).toInt32)), (.int (u0 + (1 : Int32))), (.int (u1 + (1 : Int32))), (.int (u2 + (1 : Int32))), (.int u4)])) :: (a24, .inr ((.object "java/lang/Integer"), k25, [u35, u47, u60, .null, .null, .null, .null, .null, .null])) :: tl61) := H69.pull 1 _ rfl rfl
    have H71 : Own.HS Z h66 ((a24, .inr ((.object "java/lang/Integer"), k25, [u35, u47, u60, .null, .null, .null, .null, .null, .null])) :: (a1, .inr (.int, k2, [(.int u0), (.int kb), (.int u2), (.int (u3.toInt32)), (.int (((u3.toUInt64 >>> ((32 : Int32) &&& 0x3f).toInt64.toUInt64).toInt64).toInt32)), (.int (u0 + (1 : Int32))), (.int (u1 + (1 : Int32))), (.int (u2 + (1 : Int32))), (.int u4)])) :: tl61) := H70.pull 1 _ rfl rfl
    refine Own.W.callS ok tb (argsL := [(.int u5), (.int (3 : Int32))]) (rest := [(.int (3 : Int32)), (.ref a24)]) 3 4 5 6 rfl rfl rfl rfl at_123 pd_5 (c_val l tb u5 (3 : Int32) (a24, .inr ((.object "java/lang/Integer"), k25, [u35, u47, u60, .null, .null, .null, .null, .null, .null])) (a1, .inr (.int, k2, [(.int u0), (.int kb), (.int u2), (.int (u3.toInt32)), (.int (((u3.toUInt64 >>> ((32 : Int32) &&& 0x3f).toInt64.toUInt64).toInt64).toInt32)), (.int (u0 + (1 : Int32))), (.int (u1 + (1 : Int32))), (.int (u2 + (1 : Int32))), (.int u4)])) h66 (tl61) H71 SH (by decide) (by decide)) 2 6 22 126 ?_
    rintro _ h72 ⟨u74, tl75, rfl, H73, hq76, hq77⟩
    show Own.W l Z _ K _ h72 6 22 126 #[.val (.int u0), .val (.int u1), .val (.int u2), .val (.long u3), .second, .val (.int u4), .val (.int u5), .val (.ref a1), .val (.ref a24), .unset, .unset, .unset, .unset, .unset, .unset, .unset, .unset, .unset] [u74, (.int (3 : Int32)), (.ref a24)]
    have hv78 := hq77 _ hv64
    have hv79 := hq77 _ hv65
    have hv80 := hq77 _ hq62
    refine Own.W.aast ok H73 (i := 0) rfl (by decide) (Nat.le_of_ble_eq_true rfl) (Own.VOK.sto H73 (i := 0) rfl O28 (fun q hq => List.mem_cons_of_mem _ (List.mem_cons_of_mem _ (hq))) hq76 (tb _ (List.mem_of_getElem? (i := 17) rfl))) at_126 127 ((a24, .inr ((.object "java/lang/Integer"), k25, [u35, u47, u60, u74, .null, .null, .null, .null, .null])) :: (a1, .inr (.int, k2, [(.int u0), (.int kb), (.int u2), (.int (u3.toInt32)), (.int (((u3.toUInt64 >>> ((32 : Int32) &&& 0x3f).toInt64.toUInt64).toInt64).toInt32)), (.int (u0 + (1 : Int32))), (.int (u1 + (1 : Int32))), (.int (u2 + (1 : Int32))), (.int u4)])) :: tl75) rfl (fun h81 H82 => ?_)
    refine Own.W.aload ok at_127 129 rfl rfl ?_
    refine Own.W.iconst ok at_129 130 (4 : Int32) rfl ?_
    refine Own.W.iload ok at_130 132 rfl ?_
    refine Own.W.iconst ok at_132 133 (4 : Int32) rfl ?_
    have H83 : Own.HS Z h81 ((a1, .inr (.int, k2, [(.int u0), (.int kb), (.int u2), (.int (u3.toInt32)), (.int (((u3.toUInt64 >>> ((32 : Int32) &&& 0x3f).toInt64.toUInt64).toInt64).toInt32)), (.int (u0 + (1 : Int32))), (.int (u1 + (1 : Int32))), (.int (u2 + (1 : Int32))), (.int u4)])) :: (a24, .inr ((.object "java/lang/Integer"), k25, [u35, u47, u60, u74, .null, .null, .null, .null, .null])) :: tl75) := H82.pull 1 _ rfl rfl
    have H84 : Own.HS Z h81 ((a24, .inr ((.object "java/lang/Integer"), k25, [u35, u47, u60, u74, .null, .null, .null, .null, .null])) :: (a1, .inr (.int, k2, [(.int u0), (.int kb), (.int u2), (.int (u3.toInt32)), (.int (((u3.toUInt64 >>> ((32 : Int32) &&& 0x3f).toInt64.toUInt64).toInt64).toInt32)), (.int (u0 + (1 : Int32))), (.int (u1 + (1 : Int32))), (.int (u2 + (1 : Int32))), (.int u4)])) :: tl75) := H83.pull 1 _ rfl rfl
    have H85 : Own.HS Z h81 ((a1, .inr (.int, k2, [(.int u0), (.int kb), (.int u2), (.int (u3.toInt32)), (.int (((u3.toUInt64 >>> ((32 : Int32) &&& 0x3f).toInt64.toUInt64).toInt64).toInt32)), (.int (u0 + (1 : Int32))), (.int (u1 + (1 : Int32))), (.int (u2 + (1 : Int32))), (.int u4)])) :: (a24, .inr ((.object "java/lang/Integer"), k25, [u35, u47, u60, u74, .null, .null, .null, .null, .null])) :: tl75) := H84.pull 1 _ rfl rfl
    have H86 : Own.HS Z h81 ((a24, .inr ((.object "java/lang/Integer"), k25, [u35, u47, u60, u74, .null, .null, .null, .null, .null])) :: (a1, .inr (.int, k2, [(.int u0), (.int kb), (.int u2), (.int (u3.toInt32)), (.int (((u3.toUInt64 >>> ((32 : Int32) &&& 0x3f).toInt64.toUInt64).toInt64).toInt32)), (.int (u0 + (1 : Int32))), (.int (u1 + (1 : Int32))), (.int (u2 + (1 : Int32))), (.int u4)])) :: tl75) := H85.pull 1 _ rfl rfl
    refine Own.W.callS ok tb (argsL := [(.int u5), (.int (4 : Int32))]) (rest := [(.int (4 : Int32)), (.ref a24)]) 3 4 5 6 rfl rfl rfl rfl at_133 pd_5 (c_val l tb u5 (4 : Int32) (a24, .inr ((.object "java/lang/Integer"), k25, [u35, u47, u60, u74, .null, .null, .null, .null, .null])) (a1, .inr (.int, k2, [(.int u0), (.int kb), (.int u2), (.int (u3.toInt32)), (.int (((u3.toUInt64 >>> ((32 : Int32) &&& 0x3f).toInt64.toUInt64).toInt64).toInt32)), (.int (u0 + (1 : Int32))), (.int (u1 + (1 : Int32))), (.int (u2 + (1 : Int32))), (.int u4)])) h81 (tl75) H86 SH (by decide) (by decide)) 2 7 23 136 ?_
    rintro _ h87 ⟨u89, tl90, rfl, H88, hq91, hq92⟩
    show Own.W l Z _ K _ h87 7 23 136 #[.val (.int u0), .val (.int u1), .val (.int u2), .val (.long u3), .second, .val (.int u4), .val (.int u5), .val (.ref a1), .val (.ref a24), .unset, .unset, .unset, .unset, .unset, .unset, .unset, .unset, .unset] [u89, (.int (4 : Int32)), (.ref a24)]
    have hv93 := hq92 _ hv78
    have hv94 := hq92 _ hv79
    have hv95 := hq92 _ hv80
    have hv96 := hq92 _ hq76
    refine Own.W.aast ok H88 (i := 0) rfl (by decide) (Nat.le_of_ble_eq_true rfl) (Own.VOK.sto H88 (i := 0) rfl O28 (fun q hq => List.mem_cons_of_mem _ (List.mem_cons_of_mem _ (hq))) hq91 (tb _ (List.mem_of_getElem? (i := 17) rfl))) at_136 137 ((a24, .inr ((.object "java/lang/Integer"), k25, [u35, u47, u60, u74, u89, .null, .null, .null, .null])) :: (a1, .inr (.int, k2, [(.int u0), (.int kb), (.int u2), (.int (u3.toInt32)), (.int (((u3.toUInt64 >>> ((32 : Int32) &&& 0x3f).toInt64.toUInt64).toInt64).toInt32)), (.int (u0 + (1 : Int32))), (.int (u1 + (1 : Int32))), (.int (u2 + (1 : Int32))), (.int u4)])) :: tl90) rfl (fun h97 H98 => ?_)
    refine Own.W.aload ok at_137 139 rfl rfl ?_
    refine Own.W.iconst ok at_139 140 (5 : Int32) rfl ?_
    refine Own.W.iload ok at_140 142 rfl ?_
    refine Own.W.iconst ok at_142 143 (5 : Int32) rfl ?_
    have H99 : Own.HS Z h97 ((a1, .inr (.int, k2, [(.int u0), (.int kb), (.int u2), (.int (u3.toInt32)), (.int (((u3.toUInt64 >>> ((32 : Int32) &&& 0x3f).toInt64.toUInt64).toInt64).toInt32)), (.int (u0 + (1 : Int32))), (.int (u1 + (1 : Int32))), (.int (u2 + (1 : Int32))), (.int u4)])) :: (a24, .inr ((.object "java/lang/Integer"), k25, [u35, u47, u60, u74, u89, .null, .null, .null, .null])) :: tl90) := H98.pull 1 _ rfl rfl
    have H100 : Own.HS Z h97 ((a24, .inr ((.object "java/lang/Integer"), k25, [u35, u47, u60, u74, u89, .null, .null, .null, .null])) :: (a1, .inr (.int, k2, [(.int u0), (.int kb), (.int u2), (.int (u3.toInt32)), (.int (((u3.toUInt64 >>> ((32 : Int32) &&& 0x3f).toInt64.toUInt64).toInt64).toInt32)), (.int (u0 + (1 : Int32))), (.int (u1 + (1 : Int32))), (.int (u2 + (1 : Int32))), (.int u4)])) :: tl90) := H99.pull 1 _ rfl rfl
    have H101 : Own.HS Z h97 ((a1, .inr (.int, k2, [(.int u0), (.int kb), (.int u2), (.int (u3.toInt32)), (.int (((u3.toUInt64 >>> ((32 : Int32) &&& 0x3f).toInt64.toUInt64).toInt64).toInt32)), (.int (u0 + (1 : Int32))), (.int (u1 + (1 : Int32))), (.int (u2 + (1 : Int32))), (.int u4)])) :: (a24, .inr ((.object "java/lang/Integer"), k25, [u35, u47, u60, u74, u89, .null, .null, .null, .null])) :: tl90) := H100.pull 1 _ rfl rfl
    have H102 : Own.HS Z h97 ((a24, .inr ((.object "java/lang/Integer"), k25, [u35, u47, u60, u74, u89, .null, .null, .null, .null])) :: (a1, .inr (.int, k2, [(.int u0), (.int kb), (.int u2), (.int (u3.toInt32)), (.int (((u3.toUInt64 >>> ((32 : Int32) &&& 0x3f).toInt64.toUInt64).toInt64).toInt32)), (.int (u0 + (1 : Int32))), (.int (u1 + (1 : Int32))), (.int (u2 + (1 : Int32))), (.int u4)])) :: tl90) := H101.pull 1 _ rfl rfl
    refine Own.W.callS ok tb (argsL := [(.int u5), (.int (5 : Int32))]) (rest := [(.int (5 : Int32)), (.ref a24)]) 3 4 5 6 rfl rfl rfl rfl at_143 pd_5 (c_val l tb u5 (5 : Int32) (a24, .inr ((.object "java/lang/Integer"), k25, [u35, u47, u60, u74, u89, .null, .null, .null, .null])) (a1, .inr (.int, k2, [(.int u0), (.int kb), (.int u2), (.int (u3.toInt32)), (.int (((u3.toUInt64 >>> ((32 : Int32) &&& 0x3f).toInt64.toUInt64).toInt64).toInt32)), (.int (u0 + (1 : Int32))), (.int (u1 + (1 : Int32))), (.int (u2 + (1 : Int32))), (.int u4)])) h97 (tl90) H102 SH (by decide) (by decide)) 2 8 24 146 ?_
    rintro _ h103 ⟨u105, tl106, rfl, H104, hq107, hq108⟩
    show Own.W l Z _ K _ h103 8 24 146 #[.val (.int u0), .val (.int u1), .val (.int u2), .val (.long u3), .second, .val (.int u4), .val (.int u5), .val (.ref a1), .val (.ref a24), .unset, .unset, .unset, .unset, .unset, .unset, .unset, .unset, .unset] [u105, (.int (5 : Int32)), (.ref a24)]
    have hv109 := hq108 _ hv93
    have hv110 := hq108 _ hv94
    have hv111 := hq108 _ hv95
    have hv112 := hq108 _ hv96
    have hv113 := hq108 _ hq91
    refine Own.W.aast ok H104 (i := 0) rfl (by decide) (Nat.le_of_ble_eq_true rfl) (Own.VOK.sto H104 (i := 0) rfl O28 (fun q hq => List.mem_cons_of_mem _ (List.mem_cons_of_mem _ (hq))) hq107 (tb _ (List.mem_of_getElem? (i := 17) rfl))) at_146 147 ((a24, .inr ((.object "java/lang/Integer"), k25, [u35, u47, u60, u74, u89, u105, .null, .null, .null])) :: (a1, .inr (.int, k2, [(.int u0), (.int kb), (.int u2), (.int (u3.toInt32)), (.int (((u3.toUInt64 >>> ((32 : Int32) &&& 0x3f).toInt64.toUInt64).toInt64).toInt32)), (.int (u0 + (1 : Int32))), (.int (u1 + (1 : Int32))), (.int (u2 + (1 : Int32))), (.int u4)])) :: tl106) rfl (fun h114 H115 => ?_)
    refine Own.W.aload ok at_147 149 rfl rfl ?_
    refine Own.W.bipush ok at_149 151 (6 : Int32) rfl ?_
    refine Own.W.iload ok at_151 153 rfl ?_
    refine Own.W.bipush ok at_153 155 (6 : Int32) rfl ?_
    have H116 : Own.HS Z h114 ((a1, .inr (.int, k2, [(.int u0), (.int kb), (.int u2), (.int (u3.toInt32)), (.int (((u3.toUInt64 >>> ((32 : Int32) &&& 0x3f).toInt64.toUInt64).toInt64).toInt32)), (.int (u0 + (1 : Int32))), (.int (u1 + (1 : Int32))), (.int (u2 + (1 : Int32))), (.int u4)])) :: (a24, .inr ((.object "java/lang/Integer"), k25, [u35, u47, u60, u74, u89, u105, .null, .null, .null])) :: tl106) := H115.pull 1 _ rfl rfl
    have H117 : Own.HS Z h114 ((a24, .inr ((.object "java/lang/Integer"), k25, [u35, u47, u60, u74, u89, u105, .null, .null, .null])) :: (a1, .inr (.int, k2, [(.int u0), (.int kb), (.int u2), (.int (u3.toInt32)), (.int (((u3.toUInt64 >>> ((32 : Int32) &&& 0x3f).toInt64.toUInt64).toInt64).toInt32)), (.int (u0 + (1 : Int32))), (.int (u1 + (1 : Int32))), (.int (u2 + (1 : Int32))), (.int u4)])) :: tl106) := H116.pull 1 _ rfl rfl
    have H118 : Own.HS Z h114 ((a1, .inr (.int, k2, [(.int u0), (.int kb), (.int u2), (.int (u3.toInt32)), (.int (((u3.toUInt64 >>> ((32 : Int32) &&& 0x3f).toInt64.toUInt64).toInt64).toInt32)), (.int (u0 + (1 : Int32))), (.int (u1 + (1 : Int32))), (.int (u2 + (1 : Int32))), (.int u4)])) :: (a24, .inr ((.object "java/lang/Integer"), k25, [u35, u47, u60, u74, u89, u105, .null, .null, .null])) :: tl106) := H117.pull 1 _ rfl rfl
    have H119 : Own.HS Z h114 ((a24, .inr ((.object "java/lang/Integer"), k25, [u35, u47, u60, u74, u89, u105, .null, .null, .null])) :: (a1, .inr (.int, k2, [(.int u0), (.int kb), (.int u2), (.int (u3.toInt32)), (.int (((u3.toUInt64 >>> ((32 : Int32) &&& 0x3f).toInt64.toUInt64).toInt64).toInt32)), (.int (u0 + (1 : Int32))), (.int (u1 + (1 : Int32))), (.int (u2 + (1 : Int32))), (.int u4)])) :: tl106) := H118.pull 1 _ rfl rfl
    refine Own.W.callS ok tb (argsL := [(.int u5), (.int (6 : Int32))]) (rest := [(.int (6 : Int32)), (.ref a24)]) 3 4 5 6 rfl rfl rfl rfl at_155 pd_5 (c_val l tb u5 (6 : Int32) (a24, .inr ((.object "java/lang/Integer"), k25, [u35, u47, u60, u74, u89, u105, .null, .null, .null])) (a1, .inr (.int, k2, [(.int u0), (.int kb), (.int u2), (.int (u3.toInt32)), (.int (((u3.toUInt64 >>> ((32 : Int32) &&& 0x3f).toInt64.toUInt64).toInt64).toInt32)), (.int (u0 + (1 : Int32))), (.int (u1 + (1 : Int32))), (.int (u2 + (1 : Int32))), (.int u4)])) h114 (tl106) H119 SH (by decide) (by decide)) 2 9 25 158 ?_
    rintro _ h120 ⟨u122, tl123, rfl, H121, hq124, hq125⟩
    show Own.W l Z _ K _ h120 9 25 158 #[.val (.int u0), .val (.int u1), .val (.int u2), .val (.long u3), .second, .val (.int u4), .val (.int u5), .val (.ref a1), .val (.ref a24), .unset, .unset, .unset, .unset, .unset, .unset, .unset, .unset, .unset] [u122, (.int (6 : Int32)), (.ref a24)]
    have hv126 := hq125 _ hv109
    have hv127 := hq125 _ hv110
    have hv128 := hq125 _ hv111
    have hv129 := hq125 _ hv112
    have hv130 := hq125 _ hv113
    have hv131 := hq125 _ hq107
    refine Own.W.aast ok H121 (i := 0) rfl (by decide) (Nat.le_of_ble_eq_true rfl) (Own.VOK.sto H121 (i := 0) rfl O28 (fun q hq => List.mem_cons_of_mem _ (List.mem_cons_of_mem _ (hq))) hq124 (tb _ (List.mem_of_getElem? (i := 17) rfl))) at_158 159 ((a24, .inr ((.object "java/lang/Integer"), k25, [u35, u47, u60, u74, u89, u105, u122, .null, .null])) :: (a1, .inr (.int, k2, [(.int u0), (.int kb), (.int u2), (.int (u3.toInt32)), (.int (((u3.toUInt64 >>> ((32 : Int32) &&& 0x3f).toInt64.toUInt64).toInt64).toInt32)), (.int (u0 + (1 : Int32))), (.int (u1 + (1 : Int32))), (.int (u2 + (1 : Int32))), (.int u4)])) :: tl123) rfl (fun h132 H133 => ?_)
    refine Own.W.aload ok at_159 161 rfl rfl ?_
    refine Own.W.bipush ok at_161 163 (7 : Int32) rfl ?_
    refine Own.W.iload ok at_163 165 rfl ?_
    refine Own.W.bipush ok at_165 167 (7 : Int32) rfl ?_
    have H134 : Own.HS Z h132 ((a1, .inr (.int, k2, [(.int u0), (.int kb), (.int u2), (.int (u3.toInt32)), (.int (((u3.toUInt64 >>> ((32 : Int32) &&& 0x3f).toInt64.toUInt64).toInt64).toInt32)), (.int (u0 + (1 : Int32))), (.int (u1 + (1 : Int32))), (.int (u2 + (1 : Int32))), (.int u4)])) :: (a24, .inr ((.object "java/lang/Integer"), k25, [u35, u47, u60, u74, u89, u105, u122, .null, .null])) :: tl123) := H133.pull 1 _ rfl rfl
    have H135 : Own.HS Z h132 ((a24, .inr ((.object "java/lang/Integer"), k25, [u35, u47, u60, u74, u89, u105, u122, .null, .null])) :: (a1, .inr (.int, k2, [(.int u0), (.int kb), (.int u2), (.int (u3.toInt32)), (.int (((u3.toUInt64 >>> ((32 : Int32) &&& 0x3f).toInt64.toUInt64).toInt64).toInt32)), (.int (u0 + (1 : Int32))), (.int (u1 + (1 : Int32))), (.int (u2 + (1 : Int32))), (.int u4)])) :: tl123) := H134.pull 1 _ rfl rfl
    have H136 : Own.HS Z h132 ((a1, .inr (.int, k2, [(.int u0), (.int kb), (.int u2), (.int (u3.toInt32)), (.int (((u3.toUInt64 >>> ((32 : Int32) &&& 0x3f).toInt64.toUInt64).toInt64).toInt32)), (.int (u0 + (1 : Int32))), (.int (u1 + (1 : Int32))), (.int (u2 + (1 : Int32))), (.int u4)])) :: (a24, .inr ((.object "java/lang/Integer"), k25, [u35, u47, u60, u74, u89, u105, u122, .null, .null])) :: tl123) := H135.pull 1 _ rfl rfl
    have H137 : Own.HS Z h132 ((a24, .inr ((.object "java/lang/Integer"), k25, [u35, u47, u60, u74, u89, u105, u122, .null, .null])) :: (a1, .inr (.int, k2, [(.int u0), (.int kb), (.int u2), (.int (u3.toInt32)), (.int (((u3.toUInt64 >>> ((32 : Int32) &&& 0x3f).toInt64.toUInt64).toInt64).toInt32)), (.int (u0 + (1 : Int32))), (.int (u1 + (1 : Int32))), (.int (u2 + (1 : Int32))), (.int u4)])) :: tl123) := H136.pull 1 _ rfl rfl
    refine Own.W.callS ok tb (argsL := [(.int u5), (.int (7 : Int32))]) (rest := [(.int (7 : Int32)), (.ref a24)]) 3 4 5 6 rfl rfl rfl rfl at_167 pd_5 (c_val l tb u5 (7 : Int32) (a24, .inr ((.object "java/lang/Integer"), k25, [u35, u47, u60, u74, u89, u105, u122, .null, .null])) (a1, .inr (.int, k2, [(.int u0), (.int kb), (.int u2), (.int (u3.toInt32)), (.int (((u3.toUInt64 >>> ((32 : Int32) &&& 0x3f).toInt64.toUInt64).toInt64).toInt32)), (.int (u0 + (1 : Int32))), (.int (u1 + (1 : Int32))), (.int (u2 + (1 : Int32))), (.int u4)])) h132 (tl123) H137 SH (by decide) (by decide)) 2 10 26 170 ?_
    rintro _ h138 ⟨u140, tl141, rfl, H139, hq142, hq143⟩
    show Own.W l Z _ K _ h138 10 26 170 #[.val (.int u0), .val (.int u1), .val (.int u2), .val (.long u3), .second, .val (.int u4), .val (.int u5), .val (.ref a1), .val (.ref a24), .unset, .unset, .unset, .unset, .unset, .unset, .unset, .unset, .unset] [u140, (.int (7 : Int32)), (.ref a24)]
    have hv144 := hq143 _ hv126
    have hv145 := hq143 _ hv127
    have hv146 := hq143 _ hv128
    have hv147 := hq143 _ hv129
    have hv148 := hq143 _ hv130
    have hv149 := hq143 _ hv131
    have hv150 := hq143 _ hq124
    refine Own.W.aast ok H139 (i := 0) rfl (by decide) (Nat.le_of_ble_eq_true rfl) (Own.VOK.sto H139 (i := 0) rfl O28 (fun q hq => List.mem_cons_of_mem _ (List.mem_cons_of_mem _ (hq))) hq142 (tb _ (List.mem_of_getElem? (i := 17) rfl))) at_170 171 ((a24, .inr ((.object "java/lang/Integer"), k25, [u35, u47, u60, u74, u89, u105, u122, u140, .null])) :: (a1, .inr (.int, k2, [(.int u0), (.int kb), (.int u2), (.int (u3.toInt32)), (.int (((u3.toUInt64 >>> ((32 : Int32) &&& 0x3f).toInt64.toUInt64).toInt64).toInt32)), (.int (u0 + (1 : Int32))), (.int (u1 + (1 : Int32))), (.int (u2 + (1 : Int32))), (.int u4)])) :: tl141) rfl (fun h151 H152 => ?_)
    refine Own.W.aload ok at_171 173 rfl rfl ?_
    refine Own.W.bipush ok at_173 175 (8 : Int32) rfl ?_
    refine Own.W.iload ok at_175 177 rfl ?_
    refine Own.W.bipush ok at_177 179 (8 : Int32) rfl ?_
    have H153 : Own.HS Z h151 ((a1, .inr (.int, k2, [(.int u0), (.int kb), (.int u2), (.int (u3.toInt32)), (.int (((u3.toUInt64 >>> ((32 : Int32) &&& 0x3f).toInt64.toUInt64).toInt64).toInt32)), (.int (u0 + (1 : Int32))), (.int (u1 + (1 : Int32))), (.int (u2 + (1 : Int32))), (.int u4)])) :: (a24, .inr ((.object "java/lang/Integer"), k25, [u35, u47, u60, u74, u89, u105, u122, u140, .null])) :: tl141) := H152.pull 1 _ rfl rfl
    have H154 : Own.HS Z h151 ((a24, .inr ((.object "java/lang/Integer"), k25, [u35, u47, u60, u74, u89, u105, u122, u140, .null])) :: (a1, .inr (.int, k2, [(.int u0), (.int kb), (.int u2), (.int (u3.toInt32)), (.int (((u3.toUInt64 >>> ((32 : Int32) &&& 0x3f).toInt64.toUInt64).toInt64).toInt32)), (.int (u0 + (1 : Int32))), (.int (u1 + (1 : Int32))), (.int (u2 + (1 : Int32))), (.int u4)])) :: tl141) := H153.pull 1 _ rfl rfl
    have H155 : Own.HS Z h151 ((a1, .inr (.int, k2, [(.int u0), (.int kb), (.int u2), (.int (u3.toInt32)), (.int (((u3.toUInt64 >>> ((32 : Int32) &&& 0x3f).toInt64.toUInt64).toInt64).toInt32)), (.int (u0 + (1 : Int32))), (.int (u1 + (1 : Int32))), (.int (u2 + (1 : Int32))), (.int u4)])) :: (a24, .inr ((.object "java/lang/Integer"), k25, [u35, u47, u60, u74, u89, u105, u122, u140, .null])) :: tl141) := H154.pull 1 _ rfl rfl
    have H156 : Own.HS Z h151 ((a24, .inr ((.object "java/lang/Integer"), k25, [u35, u47, u60, u74, u89, u105, u122, u140, .null])) :: (a1, .inr (.int, k2, [(.int u0), (.int kb), (.int u2), (.int (u3.toInt32)), (.int (((u3.toUInt64 >>> ((32 : Int32) &&& 0x3f).toInt64.toUInt64).toInt64).toInt32)), (.int (u0 + (1 : Int32))), (.int (u1 + (1 : Int32))), (.int (u2 + (1 : Int32))), (.int u4)])) :: tl141) := H155.pull 1 _ rfl rfl
    refine Own.W.callS ok tb (argsL := [(.int u5), (.int (8 : Int32))]) (rest := [(.int (8 : Int32)), (.ref a24)]) 3 4 5 6 rfl rfl rfl rfl at_179 pd_5 (c_val l tb u5 (8 : Int32) (a24, .inr ((.object "java/lang/Integer"), k25, [u35, u47, u60, u74, u89, u105, u122, u140, .null])) (a1, .inr (.int, k2, [(.int u0), (.int kb), (.int u2), (.int (u3.toInt32)), (.int (((u3.toUInt64 >>> ((32 : Int32) &&& 0x3f).toInt64.toUInt64).toInt64).toInt32)), (.int (u0 + (1 : Int32))), (.int (u1 + (1 : Int32))), (.int (u2 + (1 : Int32))), (.int u4)])) h151 (tl141) H156 SH (by decide) (by decide)) 2 11 27 182 ?_
    rintro _ h157 ⟨u159, tl160, rfl, H158, hq161, hq162⟩
    show Own.W l Z _ K _ h157 11 27 182 #[.val (.int u0), .val (.int u1), .val (.int u2), .val (.long u3), .second, .val (.int u4), .val (.int u5), .val (.ref a1), .val (.ref a24), .unset, .unset, .unset, .unset, .unset, .unset, .unset, .unset, .unset] [u159, (.int (8 : Int32)), (.ref a24)]
    have hv163 := hq162 _ hv144
    have hv164 := hq162 _ hv145
    have hv165 := hq162 _ hv146
    have hv166 := hq162 _ hv147
    have hv167 := hq162 _ hv148
    have hv168 := hq162 _ hv149
    have hv169 := hq162 _ hv150
    have hv170 := hq162 _ hq142
    refine Own.W.aast ok H158 (i := 0) rfl (by decide) (Nat.le_of_ble_eq_true rfl) (Own.VOK.sto H158 (i := 0) rfl O28 (fun q hq => List.mem_cons_of_mem _ (List.mem_cons_of_mem _ (hq))) hq161 (tb _ (List.mem_of_getElem? (i := 17) rfl))) at_182 183 ((a24, .inr ((.object "java/lang/Integer"), k25, [u35, u47, u60, u74, u89, u105, u122, u140, u159])) :: (a1, .inr (.int, k2, [(.int u0), (.int kb), (.int u2), (.int (u3.toInt32)), (.int (((u3.toUInt64 >>> ((32 : Int32) &&& 0x3f).toInt64.toUInt64).toInt64).toInt32)), (.int (u0 + (1 : Int32))), (.int (u1 + (1 : Int32))), (.int (u2 + (1 : Int32))), (.int u4)])) :: tl160) rfl (fun h171 H172 => ?_)
    refine Own.W.iload ok at_183 185 rfl ?_
    refine Own.W.ldc ok tb 30 rfl at_185 187 ?_
    refine Own.W.iand ok at_187 188 ?_
    refine Own.W.bipush ok at_188 190 (10 : Int32) rfl ?_
    refine Own.W.irem ok at_190 191 (by decide) ?_
    obtain ⟨nn, enn⟩ : ∃ z, z = ((u5 &&& (2147483647 : Int32)) % (10 : Int32)) := ⟨_, rfl⟩
    rw [← enn]
    show Own.W l Z _ K _ h171 11 27 191 #[.val (.int u0), .val (.int u1), .val (.int u2), .val (.long u3), .second, .val (.int u4), .val (.int u5), .val (.ref a1), .val (.ref a24), .unset, .unset, .unset, .unset, .unset, .unset, .unset, .unset, .unset] [(.int nn)]
    refine Own.W.istore ok at_191 193 #[.val (.int u0), .val (.int u1), .val (.int u2), .val (.long u3), .second, .val (.int u4), .val (.int u5), .val (.ref a1), .val (.ref a24), .val (.int nn), .unset, .unset, .unset, .unset, .unset, .unset, .unset, .unset] rfl ?_
    refine Own.W.iload ok at_193 195 rfl ?_
    refine Own.W.bipush ok at_195 197 (14 : Int32) rfl ?_
    refine Own.W.iushr ok at_197 198 ?_
    refine Own.W.bipush ok at_198 200 (15 : Int32) rfl ?_
    refine Own.W.iand ok at_200 201 ?_
    refine Own.W.istore ok at_201 203 #[.val (.int u0), .val (.int u1), .val (.int u2), .val (.long u3), .second, .val (.int u4), .val (.int u5), .val (.ref a1), .val (.ref a24), .val (.int nn), .val (.int (((u5.toUInt32 >>> ((14 : Int32) &&& 31).toUInt32).toInt32) &&& (15 : Int32))), .unset, .unset, .unset, .unset, .unset, .unset, .unset] rfl ?_
    refine Own.W.iload ok at_203 205 rfl ?_
    refine Own.W.bipush ok at_205 207 (9 : Int32) rfl ?_
    have J173 : ∀ (xx : Int32), Own.W l Z room_1 K (fun rr h' => rr = some (.int (1 : Int32)) ∧ True) h171 11 27 222 #[.val (.int u0), .val (.int u1), .val (.int u2), .val (.long u3), .second, .val (.int u4), .val (.int u5), .val (.ref a1), .val (.ref a24), .val (.int nn), .val (.int (((u5.toUInt32 >>> ((14 : Int32) &&& 31).toUInt32).toInt32) &&& (15 : Int32))), .unset, .unset, .unset, .unset, .unset, .unset, .unset] [(.int xx)] := by
      intro xx
      refine Own.W.istore ok at_222 224 #[.val (.int u0), .val (.int u1), .val (.int u2), .val (.long u3), .second, .val (.int u4), .val (.int u5), .val (.ref a1), .val (.ref a24), .val (.int nn), .val (.int (((u5.toUInt32 >>> ((14 : Int32) &&& 31).toUInt32).toInt32) &&& (15 : Int32))), .val (.int xx), .unset, .unset, .unset, .unset, .unset, .unset] rfl ?_
      obtain ⟨ksf, ek0, ek1, ek2, ek3, ek4, ek5, ek6, ek7, ek8⟩ : ∃ f : Nat → Int32, f 0 = u0 ∧ f 1 = kb ∧ f 2 = u2 ∧ f 3 = (u3.toInt32) ∧ f 4 = (((u3.toUInt64 >>> ((32 : Int32) &&& 0x3f).toInt64.toUInt64).toInt64).toInt32) ∧ f 5 = (u0 + (1 : Int32)) ∧ f 6 = (u1 + (1 : Int32)) ∧ f 7 = (u2 + (1 : Int32)) ∧ f 8 = u4 := ⟨fun i => [u0, kb, u2, (u3.toInt32), (((u3.toUInt64 >>> ((32 : Int32) &&& 0x3f).toInt64.toUInt64).toInt64).toInt32), (u0 + (1 : Int32)), (u1 + (1 : Int32)), (u2 + (1 : Int32)), u4].getD i 0, rfl, rfl, rfl, rfl, rfl, rfl, rfl, rfl, rfl⟩
      obtain ⟨vsf, ev0, ev1, ev2, ev3, ev4, ev5, ev6, ev7, ev8⟩ : ∃ f : Nat → Value, f 0 = u35 ∧ f 1 = u47 ∧ f 2 = u60 ∧ f 3 = u74 ∧ f 4 = u89 ∧ f 5 = u105 ∧ f 6 = u122 ∧ f 7 = u140 ∧ f 8 = u159 := ⟨fun i => [u35, u47, u60, u74, u89, u105, u122, u140, u159].getD i .null, rfl, rfl, rfl, rfl, rfl, rfl, rfl, rfl, rfl⟩
      refine Own.W.new ok tb H172 31 32 33 rfl rfl rfl (nw_IT tb) at_224 12 31 227 (fun a174 h175 H176 => ?_)
      show Own.W l Z _ K _ h175 12 31 227 #[.val (.int u0), .val (.int u1), .val (.int u2), .val (.long u3), .second, .val (.int u4), .val (.int u5), .val (.ref a1), .val (.ref a24), .val (.int nn), .val (.int (((u5.toUInt32 >>> ((14 : Int32) &&& 31).toUInt32).toInt32) &&& (15 : Int32))), .val (.int xx), .unset, .unset, .unset, .unset, .unset, .unset] [(.ref a174)]
      refine Own.W.dup ok at_227 228 rfl ?_
      refine Own.W.callI ok tb (a := a174) (argsL := []) (rest := [(.ref a174)]) 34 35 33 36 rfl rfl rfl rfl at_228 pd_1 (c_tini l tb a174 h175 ((a24, .inr ((.object "java/lang/Integer"), k25, [u35, u47, u60, u74, u89, u105, u122, u140, u159])) :: (a1, .inr (.int, k2, [(.int u0), (.int kb), (.int u2), (.int (u3.toInt32)), (.int (((u3.toUInt64 >>> ((32 : Int32) &&& 0x3f).toInt64.toUInt64).toInt64).toInt32)), (.int (u0 + (1 : Int32))), (.int (u1 + (1 : Int32))), (.int (u2 + (1 : Int32))), (.int u4)])) :: tl160) H176) 1 15 79 231 ?_
      rintro _ h177 ⟨ka179, va180, ha181, kk182, kv183, kh184, rfl, H178, hq185⟩
      show Own.W l Z _ K _ h177 15 79 231 #[.val (.int u0), .val (.int u1), .val (.int u2), .val (.long u3), .second, .val (.int u4), .val (.int u5), .val (.ref a1), .val (.ref a24), .val (.int nn), .val (.int (((u5.toUInt32 >>> ((14 : Int32) &&& 31).toUInt32).toInt32) &&& (15 : Int32))), .val (.int xx), .unset, .unset, .unset, .unset, .unset, .unset] [(.ref a174)]
      refine Own.W.astore ok at_231 233 #[.val (.int u0), .val (.int u1), .val (.int u2), .val (.long u3), .second, .val (.int u4), .val (.int u5), .val (.ref a1), .val (.ref a24), .val (.int nn), .val (.int (((u5.toUInt32 >>> ((14 : Int32) &&& 31).toUInt32).toInt32) &&& (15 : Int32))), .val (.int xx), .val (.ref a174), .unset, .unset, .unset, .unset, .unset] rfl rfl ?_
      have J0 : ∀ (hh : Heap) (ka va ha : Addr) (kk kv kh : ClassId) (n : Nat) (Kf : Nat → Int32) (Hf : Nat → Bool) (Vf : Nat → Value) (zz : Nat), Own.HS Z hh ((a174, o_IT (.ref ka) (.ref va) (.ref ha) (.int (zz.toInt32))) :: (ka, .inr (.int, kk, (Own.tK n Kf))) :: (va, .inr ((.object "java/lang/Object"), kv, (Own.tab n Vf))) :: (ha, .inr (.boolean, kh, (Own.tH n Hf))) :: (a24, .inr ((.object "java/lang/Integer"), k25, [u35, u47, u60, u74, u89, u105, u122, u140, u159])) :: (a1, .inr (.int, k2, [(.int u0), (.int kb), (.int u2), (.int (u3.toInt32)), (.int (((u3.toUInt64 >>> ((32 : Int32) &&& 0x3f).toInt64.toUInt64).toInt64).toInt32)), (.int (u0 + (1 : Int32))), (.int (u1 + (1 : Int32))), (.int (u2 + (1 : Int32))), (.int u4)])) :: tl160) → Own.TI n Kf Hf Vf zz (Own.Mp nn ksf vsf 0) → zz ≤ 0 → (∀ j, Own.VOK tl160 (Vf j)) → Ovr Z kv "java/lang/Object" → Own.W l Z room_1 K (fun rr h' => rr = some (.int (1 : Int32)) ∧ True) hh 15 79 233 #[.val (.int u0), .val (.int u1), .val (.int u2), .val (.long u3), .second, .val (.int u4), .val (.int u5), .val (.ref a1), .val (.ref a24), .val (.int nn), .val (.int (((u5.toUInt32 >>> ((14 : Int32) &&& 31).toUInt32).toInt32) &&& (15 : Int32))), .val (.int xx), .val (.ref a174), .unset, .unset, .unset, .unset, .unset] [] := by
        intro hh ka va ha kk kv kh n Kf Hf Vf zz Hh TT hz hV Ov
        have J1 : ∀ (hh : Heap) (ka va ha : Addr) (kk kv kh : ClassId) (n : Nat) (Kf : Nat → Int32) (Hf : Nat → Bool) (Vf : Nat → Value) (zz : Nat), Own.HS Z hh ((a174, o_IT (.ref ka) (.ref va) (.ref ha) (.int (zz.toInt32))) :: (ka, .inr (.int, kk, (Own.tK n Kf))) :: (va, .inr ((.object "java/lang/Object"), kv, (Own.tab n Vf))) :: (ha, .inr (.boolean, kh, (Own.tH n Hf))) :: (a24, .inr ((.object "java/lang/Integer"), k25, [u35, u47, u60, u74, u89, u105, u122, u140, u159])) :: (a1, .inr (.int, k2, [(.int u0), (.int kb), (.int u2), (.int (u3.toInt32)), (.int (((u3.toUInt64 >>> ((32 : Int32) &&& 0x3f).toInt64.toUInt64).toInt64).toInt32)), (.int (u0 + (1 : Int32))), (.int (u1 + (1 : Int32))), (.int (u2 + (1 : Int32))), (.int u4)])) :: tl160) → Own.TI n Kf Hf Vf zz (Own.Mp nn ksf vsf 1) → zz ≤ 1 → (∀ j, Own.VOK tl160 (Vf j)) → Ovr Z kv "java/lang/Object" → Own.W l Z room_1 K (fun rr h' => rr = some (.int (1 : Int32)) ∧ True) hh 15 79 251 #[.val (.int u0), .val (.int u1), .val (.int u2), .val (.long u3), .second, .val (.int u4), .val (.int u5), .val (.ref a1), .val (.ref a24), .val (.int nn), .val (.int (((u5.toUInt32 >>> ((14 : Int32) &&& 31).toUInt32).toInt32) &&& (15 : Int32))), .val (.int xx), .val (.ref a174), .unset, .unset, .unset, .unset, .unset] [] := by
          intro hh ka va ha kk kv kh n Kf Hf Vf zz Hh TT hz hV Ov
          have J2 : ∀ (hh : Heap) (ka va ha : Addr) (kk kv kh : ClassId) (n : Nat) (Kf : Nat → Int32) (Hf : Nat → Bool) (Vf : Nat → Value) (zz : Nat), Own.HS Z hh ((a174, o_IT (.ref ka) (.ref va) (.ref ha) (.int (zz.toInt32))) :: (ka, .inr (.int, kk, (Own.tK n Kf))) :: (va, .inr ((.object "java/lang/Object"), kv, (Own.tab n Vf))) :: (ha, .inr (.boolean, kh, (Own.tH n Hf))) :: (a24, .inr ((.object "java/lang/Integer"), k25, [u35, u47, u60, u74, u89, u105, u122, u140, u159])) :: (a1, .inr (.int, k2, [(.int u0), (.int kb), (.int u2), (.int (u3.toInt32)), (.int (((u3.toUInt64 >>> ((32 : Int32) &&& 0x3f).toInt64.toUInt64).toInt64).toInt32)), (.int (u0 + (1 : Int32))), (.int (u1 + (1 : Int32))), (.int (u2 + (1 : Int32))), (.int u4)])) :: tl160) → Own.TI n Kf Hf Vf zz (Own.Mp nn ksf vsf 2) → zz ≤ 2 → (∀ j, Own.VOK tl160 (Vf j)) → Ovr Z kv "java/lang/Object" → Own.W l Z room_1 K (fun rr h' => rr = some (.int (1 : Int32)) ∧ True) hh 15 79 270 #[.val (.int u0), .val (.int u1), .val (.int u2), .val (.long u3), .second, .val (.int u4), .val (.int u5), .val (.ref a1), .val (.ref a24), .val (.int nn), .val (.int (((u5.toUInt32 >>> ((14 : Int32) &&& 31).toUInt32).toInt32) &&& (15 : Int32))), .val (.int xx), .val (.ref a174), .unset, .unset, .unset, .unset, .unset] [] := by
            intro hh ka va ha kk kv kh n Kf Hf Vf zz Hh TT hz hV Ov
            have J3 : ∀ (hh : Heap) (ka va ha : Addr) (kk kv kh : ClassId) (n : Nat) (Kf : Nat → Int32) (Hf : Nat → Bool) (Vf : Nat → Value) (zz : Nat), Own.HS Z hh ((a174, o_IT (.ref ka) (.ref va) (.ref ha) (.int (zz.toInt32))) :: (ka, .inr (.int, kk, (Own.tK n Kf))) :: (va, .inr ((.object "java/lang/Object"), kv, (Own.tab n Vf))) :: (ha, .inr (.boolean, kh, (Own.tH n Hf))) :: (a24, .inr ((.object "java/lang/Integer"), k25, [u35, u47, u60, u74, u89, u105, u122, u140, u159])) :: (a1, .inr (.int, k2, [(.int u0), (.int kb), (.int u2), (.int (u3.toInt32)), (.int (((u3.toUInt64 >>> ((32 : Int32) &&& 0x3f).toInt64.toUInt64).toInt64).toInt32)), (.int (u0 + (1 : Int32))), (.int (u1 + (1 : Int32))), (.int (u2 + (1 : Int32))), (.int u4)])) :: tl160) → Own.TI n Kf Hf Vf zz (Own.Mp nn ksf vsf 3) → zz ≤ 3 → (∀ j, Own.VOK tl160 (Vf j)) → Ovr Z kv "java/lang/Object" → Own.W l Z room_1 K (fun rr h' => rr = some (.int (1 : Int32)) ∧ True) hh 15 79 289 #[.val (.int u0), .val (.int u1), .val (.int u2), .val (.long u3), .second, .val (.int u4), .val (.int u5), .val (.ref a1), .val (.ref a24), .val (.int nn), .val (.int (((u5.toUInt32 >>> ((14 : Int32) &&& 31).toUInt32).toInt32) &&& (15 : Int32))), .val (.int xx), .val (.ref a174), .unset, .unset, .unset, .unset, .unset] [] := by
              intro hh ka va ha kk kv kh n Kf Hf Vf zz Hh TT hz hV Ov
              have J4 : ∀ (hh : Heap) (ka va ha : Addr) (kk kv kh : ClassId) (n : Nat) (Kf : Nat → Int32) (Hf : Nat → Bool) (Vf : Nat → Value) (zz : Nat), Own.HS Z hh ((a174, o_IT (.ref ka) (.ref va) (.ref ha) (.int (zz.toInt32))) :: (ka, .inr (.int, kk, (Own.tK n Kf))) :: (va, .inr ((.object "java/lang/Object"), kv, (Own.tab n Vf))) :: (ha, .inr (.boolean, kh, (Own.tH n Hf))) :: (a24, .inr ((.object "java/lang/Integer"), k25, [u35, u47, u60, u74, u89, u105, u122, u140, u159])) :: (a1, .inr (.int, k2, [(.int u0), (.int kb), (.int u2), (.int (u3.toInt32)), (.int (((u3.toUInt64 >>> ((32 : Int32) &&& 0x3f).toInt64.toUInt64).toInt64).toInt32)), (.int (u0 + (1 : Int32))), (.int (u1 + (1 : Int32))), (.int (u2 + (1 : Int32))), (.int u4)])) :: tl160) → Own.TI n Kf Hf Vf zz (Own.Mp nn ksf vsf 4) → zz ≤ 4 → (∀ j, Own.VOK tl160 (Vf j)) → Ovr Z kv "java/lang/Object" → Own.W l Z room_1 K (fun rr h' => rr = some (.int (1 : Int32)) ∧ True) hh 15 79 308 #[.val (.int u0), .val (.int u1), .val (.int u2), .val (.long u3), .second, .val (.int u4), .val (.int u5), .val (.ref a1), .val (.ref a24), .val (.int nn), .val (.int (((u5.toUInt32 >>> ((14 : Int32) &&& 31).toUInt32).toInt32) &&& (15 : Int32))), .val (.int xx), .val (.ref a174), .unset, .unset, .unset, .unset, .unset] [] := by
                intro hh ka va ha kk kv kh n Kf Hf Vf zz Hh TT hz hV Ov
                have J5 : ∀ (hh : Heap) (ka va ha : Addr) (kk kv kh : ClassId) (n : Nat) (Kf : Nat → Int32) (Hf : Nat → Bool) (Vf : Nat → Value) (zz : Nat), Own.HS Z hh ((a174, o_IT (.ref ka) (.ref va) (.ref ha) (.int (zz.toInt32))) :: (ka, .inr (.int, kk, (Own.tK n Kf))) :: (va, .inr ((.object "java/lang/Object"), kv, (Own.tab n Vf))) :: (ha, .inr (.boolean, kh, (Own.tH n Hf))) :: (a24, .inr ((.object "java/lang/Integer"), k25, [u35, u47, u60, u74, u89, u105, u122, u140, u159])) :: (a1, .inr (.int, k2, [(.int u0), (.int kb), (.int u2), (.int (u3.toInt32)), (.int (((u3.toUInt64 >>> ((32 : Int32) &&& 0x3f).toInt64.toUInt64).toInt64).toInt32)), (.int (u0 + (1 : Int32))), (.int (u1 + (1 : Int32))), (.int (u2 + (1 : Int32))), (.int u4)])) :: tl160) → Own.TI n Kf Hf Vf zz (Own.Mp nn ksf vsf 5) → zz ≤ 5 → (∀ j, Own.VOK tl160 (Vf j)) → Ovr Z kv "java/lang/Object" → Own.W l Z room_1 K (fun rr h' => rr = some (.int (1 : Int32)) ∧ True) hh 15 79 327 #[.val (.int u0), .val (.int u1), .val (.int u2), .val (.long u3), .second, .val (.int u4), .val (.int u5), .val (.ref a1), .val (.ref a24), .val (.int nn), .val (.int (((u5.toUInt32 >>> ((14 : Int32) &&& 31).toUInt32).toInt32) &&& (15 : Int32))), .val (.int xx), .val (.ref a174), .unset, .unset, .unset, .unset, .unset] [] := by
                  intro hh ka va ha kk kv kh n Kf Hf Vf zz Hh TT hz hV Ov
                  have J6 : ∀ (hh : Heap) (ka va ha : Addr) (kk kv kh : ClassId) (n : Nat) (Kf : Nat → Int32) (Hf : Nat → Bool) (Vf : Nat → Value) (zz : Nat), Own.HS Z hh ((a174, o_IT (.ref ka) (.ref va) (.ref ha) (.int (zz.toInt32))) :: (ka, .inr (.int, kk, (Own.tK n Kf))) :: (va, .inr ((.object "java/lang/Object"), kv, (Own.tab n Vf))) :: (ha, .inr (.boolean, kh, (Own.tH n Hf))) :: (a24, .inr ((.object "java/lang/Integer"), k25, [u35, u47, u60, u74, u89, u105, u122, u140, u159])) :: (a1, .inr (.int, k2, [(.int u0), (.int kb), (.int u2), (.int (u3.toInt32)), (.int (((u3.toUInt64 >>> ((32 : Int32) &&& 0x3f).toInt64.toUInt64).toInt64).toInt32)), (.int (u0 + (1 : Int32))), (.int (u1 + (1 : Int32))), (.int (u2 + (1 : Int32))), (.int u4)])) :: tl160) → Own.TI n Kf Hf Vf zz (Own.Mp nn ksf vsf 6) → zz ≤ 6 → (∀ j, Own.VOK tl160 (Vf j)) → Ovr Z kv "java/lang/Object" → Own.W l Z room_1 K (fun rr h' => rr = some (.int (1 : Int32)) ∧ True) hh 15 79 346 #[.val (.int u0), .val (.int u1), .val (.int u2), .val (.long u3), .second, .val (.int u4), .val (.int u5), .val (.ref a1), .val (.ref a24), .val (.int nn), .val (.int (((u5.toUInt32 >>> ((14 : Int32) &&& 31).toUInt32).toInt32) &&& (15 : Int32))), .val (.int xx), .val (.ref a174), .unset, .unset, .unset, .unset, .unset] [] := by
                    intro hh ka va ha kk kv kh n Kf Hf Vf zz Hh TT hz hV Ov
                    have J7 : ∀ (hh : Heap) (ka va ha : Addr) (kk kv kh : ClassId) (n : Nat) (Kf : Nat → Int32) (Hf : Nat → Bool) (Vf : Nat → Value) (zz : Nat), Own.HS Z hh ((a174, o_IT (.ref ka) (.ref va) (.ref ha) (.int (zz.toInt32))) :: (ka, .inr (.int, kk, (Own.tK n Kf))) :: (va, .inr ((.object "java/lang/Object"), kv, (Own.tab n Vf))) :: (ha, .inr (.boolean, kh, (Own.tH n Hf))) :: (a24, .inr ((.object "java/lang/Integer"), k25, [u35, u47, u60, u74, u89, u105, u122, u140, u159])) :: (a1, .inr (.int, k2, [(.int u0), (.int kb), (.int u2), (.int (u3.toInt32)), (.int (((u3.toUInt64 >>> ((32 : Int32) &&& 0x3f).toInt64.toUInt64).toInt64).toInt32)), (.int (u0 + (1 : Int32))), (.int (u1 + (1 : Int32))), (.int (u2 + (1 : Int32))), (.int u4)])) :: tl160) → Own.TI n Kf Hf Vf zz (Own.Mp nn ksf vsf 7) → zz ≤ 7 → (∀ j, Own.VOK tl160 (Vf j)) → Ovr Z kv "java/lang/Object" → Own.W l Z room_1 K (fun rr h' => rr = some (.int (1 : Int32)) ∧ True) hh 15 79 368 #[.val (.int u0), .val (.int u1), .val (.int u2), .val (.long u3), .second, .val (.int u4), .val (.int u5), .val (.ref a1), .val (.ref a24), .val (.int nn), .val (.int (((u5.toUInt32 >>> ((14 : Int32) &&& 31).toUInt32).toInt32) &&& (15 : Int32))), .val (.int xx), .val (.ref a174), .unset, .unset, .unset, .unset, .unset] [] := by
                      intro hh ka va ha kk kv kh n Kf Hf Vf zz Hh TT hz hV Ov
                      have J8 : ∀ (hh : Heap) (ka va ha : Addr) (kk kv kh : ClassId) (n : Nat) (Kf : Nat → Int32) (Hf : Nat → Bool) (Vf : Nat → Value) (zz : Nat), Own.HS Z hh ((a174, o_IT (.ref ka) (.ref va) (.ref ha) (.int (zz.toInt32))) :: (ka, .inr (.int, kk, (Own.tK n Kf))) :: (va, .inr ((.object "java/lang/Object"), kv, (Own.tab n Vf))) :: (ha, .inr (.boolean, kh, (Own.tH n Hf))) :: (a24, .inr ((.object "java/lang/Integer"), k25, [u35, u47, u60, u74, u89, u105, u122, u140, u159])) :: (a1, .inr (.int, k2, [(.int u0), (.int kb), (.int u2), (.int (u3.toInt32)), (.int (((u3.toUInt64 >>> ((32 : Int32) &&& 0x3f).toInt64.toUInt64).toInt64).toInt32)), (.int (u0 + (1 : Int32))), (.int (u1 + (1 : Int32))), (.int (u2 + (1 : Int32))), (.int u4)])) :: tl160) → Own.TI n Kf Hf Vf zz (Own.Mp nn ksf vsf 8) → zz ≤ 8 → (∀ j, Own.VOK tl160 (Vf j)) → Ovr Z kv "java/lang/Object" → Own.W l Z room_1 K (fun rr h' => rr = some (.int (1 : Int32)) ∧ True) hh 15 79 390 #[.val (.int u0), .val (.int u1), .val (.int u2), .val (.long u3), .second, .val (.int u4), .val (.int u5), .val (.ref a1), .val (.ref a24), .val (.int nn), .val (.int (((u5.toUInt32 >>> ((14 : Int32) &&& 31).toUInt32).toInt32) &&& (15 : Int32))), .val (.int xx), .val (.ref a174), .unset, .unset, .unset, .unset, .unset] [] := by
                        intro hh ka va ha kk kv kh n Kf Hf Vf zz Hh TT hz hV Ov
                        have J9 : ∀ (hh : Heap) (ka va ha : Addr) (kk kv kh : ClassId) (n : Nat) (Kf : Nat → Int32) (Hf : Nat → Bool) (Vf : Nat → Value) (zz : Nat), Own.HS Z hh ((a174, o_IT (.ref ka) (.ref va) (.ref ha) (.int (zz.toInt32))) :: (ka, .inr (.int, kk, (Own.tK n Kf))) :: (va, .inr ((.object "java/lang/Object"), kv, (Own.tab n Vf))) :: (ha, .inr (.boolean, kh, (Own.tH n Hf))) :: (a24, .inr ((.object "java/lang/Integer"), k25, [u35, u47, u60, u74, u89, u105, u122, u140, u159])) :: (a1, .inr (.int, k2, [(.int u0), (.int kb), (.int u2), (.int (u3.toInt32)), (.int (((u3.toUInt64 >>> ((32 : Int32) &&& 0x3f).toInt64.toUInt64).toInt64).toInt32)), (.int (u0 + (1 : Int32))), (.int (u1 + (1 : Int32))), (.int (u2 + (1 : Int32))), (.int u4)])) :: tl160) → Own.TI n Kf Hf Vf zz (Own.Mp nn ksf vsf 9) → zz ≤ 9 → (∀ j, Own.VOK tl160 (Vf j)) → Ovr Z kv "java/lang/Object" → Own.W l Z room_1 K (fun rr h' => rr = some (.int (1 : Int32)) ∧ True) hh 18 175 412 #[.val (.int u0), .val (.int u1), .val (.int u2), .val (.long u3), .second, .val (.int u4), .val (.int u5), .val (.ref a1), .val (.ref a24), .val (.int nn), .val (.int (((u5.toUInt32 >>> ((14 : Int32) &&& 31).toUInt32).toInt32) &&& (15 : Int32))), .val (.int xx), .val (.ref a174), .unset, .unset, .unset, .unset, .unset] [] := by
                          intro hh ka va ha kk kv kh n Kf Hf Vf zz Hh TT hz hV Ov
                          refine Own.W.aload ok at_412 414 rfl rfl ?_
                          refine Own.W.iload ok at_414 416 rfl ?_
                          have H186 : Own.HS Z hh ((ha, .inr (.boolean, kh, (Own.tH n Hf))) :: (a174, o_IT (.ref ka) (.ref va) (.ref ha) (.int (zz.toInt32))) :: (ka, .inr (.int, kk, (Own.tK n Kf))) :: (va, .inr ((.object "java/lang/Object"), kv, (Own.tab n Vf))) :: (a24, .inr ((.object "java/lang/Integer"), k25, [u35, u47, u60, u74, u89, u105, u122, u140, u159])) :: (a1, .inr (.int, k2, [(.int u0), (.int kb), (.int u2), (.int (u3.toInt32)), (.int (((u3.toUInt64 >>> ((32 : Int32) &&& 0x3f).toInt64.toUInt64).toInt64).toInt32)), (.int (u0 + (1 : Int32))), (.int (u1 + (1 : Int32))), (.int (u2 + (1 : Int32))), (.int u4)])) :: tl160) := Hh.pull 3 _ rfl rfl
                          have H187 : Own.HS Z hh ((va, .inr ((.object "java/lang/Object"), kv, (Own.tab n Vf))) :: (ha, .inr (.boolean, kh, (Own.tH n Hf))) :: (a174, o_IT (.ref ka) (.ref va) (.ref ha) (.int (zz.toInt32))) :: (ka, .inr (.int, kk, (Own.tK n Kf))) :: (a24, .inr ((.object "java/lang/Integer"), k25, [u35, u47, u60, u74, u89, u105, u122, u140, u159])) :: (a1, .inr (.int, k2, [(.int u0), (.int kb), (.int u2), (.int (u3.toInt32)), (.int (((u3.toUInt64 >>> ((32 : Int32) &&& 0x3f).toInt64.toUInt64).toInt64).toInt32)), (.int (u0 + (1 : Int32))), (.int (u1 + (1 : Int32))), (.int (u2 + (1 : Int32))), (.int u4)])) :: tl160) := H186.pull 3 _ rfl rfl
                          have H188 : Own.HS Z hh ((ka, .inr (.int, kk, (Own.tK n Kf))) :: (va, .inr ((.object "java/lang/Object"), kv, (Own.tab n Vf))) :: (ha, .inr (.boolean, kh, (Own.tH n Hf))) :: (a174, o_IT (.ref ka) (.ref va) (.ref ha) (.int (zz.toInt32))) :: (a24, .inr ((.object "java/lang/Integer"), k25, [u35, u47, u60, u74, u89, u105, u122, u140, u159])) :: (a1, .inr (.int, k2, [(.int u0), (.int kb), (.int u2), (.int (u3.toInt32)), (.int (((u3.toUInt64 >>> ((32 : Int32) &&& 0x3f).toInt64.toUInt64).toInt64).toInt32)), (.int (u0 + (1 : Int32))), (.int (u1 + (1 : Int32))), (.int (u2 + (1 : Int32))), (.int u4)])) :: tl160) := H187.pull 3 _ rfl rfl
                          have H189 : Own.HS Z hh ((a174, o_IT (.ref ka) (.ref va) (.ref ha) (.int (zz.toInt32))) :: (ka, .inr (.int, kk, (Own.tK n Kf))) :: (va, .inr ((.object "java/lang/Object"), kv, (Own.tab n Vf))) :: (ha, .inr (.boolean, kh, (Own.tH n Hf))) :: (a24, .inr ((.object "java/lang/Integer"), k25, [u35, u47, u60, u74, u89, u105, u122, u140, u159])) :: (a1, .inr (.int, k2, [(.int u0), (.int kb), (.int u2), (.int (u3.toInt32)), (.int (((u3.toUInt64 >>> ((32 : Int32) &&& 0x3f).toInt64.toUInt64).toInt64).toInt32)), (.int (u0 + (1 : Int32))), (.int (u1 + (1 : Int32))), (.int (u2 + (1 : Int32))), (.int u4)])) :: tl160) := H188.pull 3 _ rfl rfl
                          refine Own.W.callV ok tb (a := a174) (argsL := [(.int xx)]) (rest := []) 60 61 63 62 64 33 rfl rfl rfl rfl rfl rfl (notFace_of_selects (args := #[]) (mvT ok.2.1 (tb _ (List.mem_of_getElem? (i := 63) rfl)))) (H189.exa (i := 0) rfl) at_416 pd_6 (c_get l tb a174 ka va ha kk kv kh n Kf Hf Vf zz xx (Own.Mp nn ksf vsf 9) tl160 hh ((a24, .inr ((.object "java/lang/Integer"), k25, [u35, u47, u60, u74, u89, u105, u122, u140, u159])) :: (a1, .inr (.int, k2, [(.int u0), (.int kb), (.int u2), (.int (u3.toInt32)), (.int (((u3.toUInt64 >>> ((32 : Int32) &&& 0x3f).toInt64.toUInt64).toInt64).toInt32)), (.int (u0 + (1 : Int32))), (.int (u1 + (1 : Int32))), (.int (u2 + (1 : Int32))), (.int u4)])) :: tl160) H189 TT hV) 0 18 175 419 ?_
                          rintro _ _ ⟨rfl, rfl, hq190⟩
                          show Own.W l Z _ K _ hh 18 175 419 #[.val (.int u0), .val (.int u1), .val (.int u2), .val (.long u3), .second, .val (.int u4), .val (.int u5), .val (.ref a1), .val (.ref a24), .val (.int nn), .val (.int (((u5.toUInt32 >>> ((14 : Int32) &&& 31).toUInt32).toInt32) &&& (15 : Int32))), .val (.int xx), .val (.ref a174), .unset, .unset, .unset, .unset, .unset] [(Own.gv (Own.Mp nn ksf vsf 9) xx)]
                          have J : ∀ g : Value, g = Own.gv (Own.Mp nn ksf vsf 9) xx → ∀ hg : Own.VOK tl160 g, Own.W l Z room_1 K (fun rr h' => rr = some (.int (1 : Int32)) ∧ True) hh 18 175 422 #[.val (.int u0), .val (.int u1), .val (.int u2), .val (.long u3), .second, .val (.int u4), .val (.int u5), .val (.ref a1), .val (.ref a24), .val (.int nn), .val (.int (((u5.toUInt32 >>> ((14 : Int32) &&& 31).toUInt32).toInt32) &&& (15 : Int32))), .val (.int xx), .val (.ref a174), .unset, .unset, .unset, .unset, .unset] [g] := by
                            intro g eg hg
                            refine Own.W.astore ok at_422 424 #[.val (.int u0), .val (.int u1), .val (.int u2), .val (.long u3), .second, .val (.int u4), .val (.int u5), .val (.ref a1), .val (.ref a24), .val (.int nn), .val (.int (((u5.toUInt32 >>> ((14 : Int32) &&& 31).toUInt32).toInt32) &&& (15 : Int32))), .val (.int xx), .val (.ref a174), .val g, .unset, .unset, .unset, .unset] hg.ref (by rcases ref_cases hg.ref with e | ⟨_, e⟩ <;> rw [e] <;> rfl) ?_
                            refine Own.W.aload ok at_424 426 rfl rfl ?_
                            refine Own.W.iload ok at_426 428 rfl ?_
                            have H191 : Own.HS Z hh ((ha, .inr (.boolean, kh, (Own.tH n Hf))) :: (a174, o_IT (.ref ka) (.ref va) (.ref ha) (.int (zz.toInt32))) :: (ka, .inr (.int, kk, (Own.tK n Kf))) :: (va, .inr ((.object "java/lang/Object"), kv, (Own.tab n Vf))) :: (a24, .inr ((.object "java/lang/Integer"), k25, [u35, u47, u60, u74, u89, u105, u122, u140, u159])) :: (a1, .inr (.int, k2, [(.int u0), (.int kb), (.int u2), (.int (u3.toInt32)), (.int (((u3.toUInt64 >>> ((32 : Int32) &&& 0x3f).toInt64.toUInt64).toInt64).toInt32)), (.int (u0 + (1 : Int32))), (.int (u1 + (1 : Int32))), (.int (u2 + (1 : Int32))), (.int u4)])) :: tl160) := H189.pull 3 _ rfl rfl
                            have H192 : Own.HS Z hh ((va, .inr ((.object "java/lang/Object"), kv, (Own.tab n Vf))) :: (ha, .inr (.boolean, kh, (Own.tH n Hf))) :: (a174, o_IT (.ref ka) (.ref va) (.ref ha) (.int (zz.toInt32))) :: (ka, .inr (.int, kk, (Own.tK n Kf))) :: (a24, .inr ((.object "java/lang/Integer"), k25, [u35, u47, u60, u74, u89, u105, u122, u140, u159])) :: (a1, .inr (.int, k2, [(.int u0), (.int kb), (.int u2), (.int (u3.toInt32)), (.int (((u3.toUInt64 >>> ((32 : Int32) &&& 0x3f).toInt64.toUInt64).toInt64).toInt32)), (.int (u0 + (1 : Int32))), (.int (u1 + (1 : Int32))), (.int (u2 + (1 : Int32))), (.int u4)])) :: tl160) := H191.pull 3 _ rfl rfl
                            have H193 : Own.HS Z hh ((ka, .inr (.int, kk, (Own.tK n Kf))) :: (va, .inr ((.object "java/lang/Object"), kv, (Own.tab n Vf))) :: (ha, .inr (.boolean, kh, (Own.tH n Hf))) :: (a174, o_IT (.ref ka) (.ref va) (.ref ha) (.int (zz.toInt32))) :: (a24, .inr ((.object "java/lang/Integer"), k25, [u35, u47, u60, u74, u89, u105, u122, u140, u159])) :: (a1, .inr (.int, k2, [(.int u0), (.int kb), (.int u2), (.int (u3.toInt32)), (.int (((u3.toUInt64 >>> ((32 : Int32) &&& 0x3f).toInt64.toUInt64).toInt64).toInt32)), (.int (u0 + (1 : Int32))), (.int (u1 + (1 : Int32))), (.int (u2 + (1 : Int32))), (.int u4)])) :: tl160) := H192.pull 3 _ rfl rfl
                            have H194 : Own.HS Z hh ((a174, o_IT (.ref ka) (.ref va) (.ref ha) (.int (zz.toInt32))) :: (ka, .inr (.int, kk, (Own.tK n Kf))) :: (va, .inr ((.object "java/lang/Object"), kv, (Own.tab n Vf))) :: (ha, .inr (.boolean, kh, (Own.tH n Hf))) :: (a24, .inr ((.object "java/lang/Integer"), k25, [u35, u47, u60, u74, u89, u105, u122, u140, u159])) :: (a1, .inr (.int, k2, [(.int u0), (.int kb), (.int u2), (.int (u3.toInt32)), (.int (((u3.toUInt64 >>> ((32 : Int32) &&& 0x3f).toInt64.toUInt64).toInt64).toInt32)), (.int (u0 + (1 : Int32))), (.int (u1 + (1 : Int32))), (.int (u2 + (1 : Int32))), (.int u4)])) :: tl160) := H193.pull 3 _ rfl rfl
                            refine Own.W.callV ok tb (a := a174) (argsL := [(.int xx)]) (rest := []) 65 66 68 67 69 33 rfl rfl rfl rfl rfl rfl (notFace_of_selects (args := #[]) (mvT ok.2.1 (tb _ (List.mem_of_getElem? (i := 68) rfl)))) (H194.exa (i := 0) rfl) at_428 pd_7 (c_has l tb a174 ka va ha kk kv kh n Kf Hf Vf zz xx (Own.Mp nn ksf vsf 9) tl160 hh ((a24, .inr ((.object "java/lang/Integer"), k25, [u35, u47, u60, u74, u89, u105, u122, u140, u159])) :: (a1, .inr (.int, k2, [(.int u0), (.int kb), (.int u2), (.int (u3.toInt32)), (.int (((u3.toUInt64 >>> ((32 : Int32) &&& 0x3f).toInt64.toUInt64).toInt64).toInt32)), (.int (u0 + (1 : Int32))), (.int (u1 + (1 : Int32))), (.int (u2 + (1 : Int32))), (.int u4)])) :: tl160) H194 TT hV) 0 18 175 431 ?_
                            rintro _ _ ⟨rfl, rfl⟩
                            show Own.W l Z _ K _ hh 18 175 431 #[.val (.int u0), .val (.int u1), .val (.int u2), .val (.long u3), .second, .val (.int u4), .val (.int u5), .val (.ref a1), .val (.ref a24), .val (.int nn), .val (.int (((u5.toUInt32 >>> ((14 : Int32) &&& 31).toUInt32).toInt32) &&& (15 : Int32))), .val (.int xx), .val (.ref a174), .val g, .unset, .unset, .unset, .unset] [(.int (Own.bz ((Own.Mp nn ksf vsf 9) xx).isSome))]
                            refine Own.W.istore ok at_431 433 #[.val (.int u0), .val (.int u1), .val (.int u2), .val (.long u3), .second, .val (.int u4), .val (.int u5), .val (.ref a1), .val (.ref a24), .val (.int nn), .val (.int (((u5.toUInt32 >>> ((14 : Int32) &&& 31).toUInt32).toInt32) &&& (15 : Int32))), .val (.int xx), .val (.ref a174), .val g, .val (.int (Own.bz ((Own.Mp nn ksf vsf 9) xx).isSome)), .unset, .unset, .unset] rfl ?_
                            refine Own.W.iconst ok at_433 434 (-1 : Int32) rfl ?_
                            refine Own.W.istore ok at_434 436 #[.val (.int u0), .val (.int u1), .val (.int u2), .val (.long u3), .second, .val (.int u4), .val (.int u5), .val (.ref a1), .val (.ref a24), .val (.int nn), .val (.int (((u5.toUInt32 >>> ((14 : Int32) &&& 31).toUInt32).toInt32) &&& (15 : Int32))), .val (.int xx), .val (.ref a174), .val g, .val (.int (Own.bz ((Own.Mp nn ksf vsf 9) xx).isSome)), .val (.int (-1 : Int32)), .unset, .unset] rfl ?_
                            have L0 : ∀ la : Int32, Own.RR nn ksf vsf xx 0 la → Own.W l Z room_1 K (fun rr h' => rr = some (.int (1 : Int32)) ∧ True) hh 18 175 436 #[.val (.int u0), .val (.int u1), .val (.int u2), .val (.long u3), .second, .val (.int u4), .val (.int u5), .val (.ref a1), .val (.ref a24), .val (.int nn), .val (.int (((u5.toUInt32 >>> ((14 : Int32) &&& 31).toUInt32).toInt32) &&& (15 : Int32))), .val (.int xx), .val (.ref a174), .val g, .val (.int (Own.bz ((Own.Mp nn ksf vsf 9) xx).isSome)), .val (.int la), .unset, .unset] [] := by
                              intro la hR
                              have L1 : ∀ la : Int32, Own.RR nn ksf vsf xx 1 la → Own.W l Z room_1 K (fun rr h' => rr = some (.int (1 : Int32)) ∧ True) hh 18 175 453 #[.val (.int u0), .val (.int u1), .val (.int u2), .val (.long u3), .second, .val (.int u4), .val (.int u5), .val (.ref a1), .val (.ref a24), .val (.int nn), .val (.int (((u5.toUInt32 >>> ((14 : Int32) &&& 31).toUInt32).toInt32) &&& (15 : Int32))), .val (.int xx), .val (.ref a174), .val g, .val (.int (Own.bz ((Own.Mp nn ksf vsf 9) xx).isSome)), .val (.int la), .unset, .unset] [] := by
                                intro la hR
                                have L2 : ∀ la : Int32, Own.RR nn ksf vsf xx 2 la → Own.W l Z room_1 K (fun rr h' => rr = some (.int (1 : Int32)) ∧ True) hh 18 175 471 #[.val (.int u0), .val (.int u1), .val (.int u2), .val (.long u3), .second, .val (.int u4), .val (.int u5), .val (.ref a1), .val (.ref a24), .val (.int nn), .val (.int (((u5.toUInt32 >>> ((14 : Int32) &&& 31).toUInt32).toInt32) &&& (15 : Int32))), .val (.int xx), .val (.ref a174), .val g, .val (.int (Own.bz ((Own.Mp nn ksf vsf 9) xx).isSome)), .val (.int la), .unset, .unset] [] := by
                                  intro la hR
                                  have L3 : ∀ la : Int32, Own.RR nn ksf vsf xx 3 la → Own.W l Z room_1 K (fun rr h' => rr = some (.int (1 : Int32)) ∧ True) hh 18 175 489 #[.val (.int u0), .val (.int u1), .val (.int u2), .val (.long u3), .second, .val (.int u4), .val (.int u5), .val (.ref a1), .val (.ref a24), .val (.int nn), .val (.int (((u5.toUInt32 >>> ((14 : Int32) &&& 31).toUInt32).toInt32) &&& (15 : Int32))), .val (.int xx), .val (.ref a174), .val g, .val (.int (Own.bz ((Own.Mp nn ksf vsf 9) xx).isSome)), .val (.int la), .unset, .unset] [] := by
                                    intro la hR
                                    have L4 : ∀ la : Int32, Own.RR nn ksf vsf xx 4 la → Own.W l Z room_1 K (fun rr h' => rr = some (.int (1 : Int32)) ∧ True) hh 18 175 507 #[.val (.int u0), .val (.int u1), .val (.int u2), .val (.long u3), .second, .val (.int u4), .val (.int u5), .val (.ref a1), .val (.ref a24), .val (.int nn), .val (.int (((u5.toUInt32 >>> ((14 : Int32) &&& 31).toUInt32).toInt32) &&& (15 : Int32))), .val (.int xx), .val (.ref a174), .val g, .val (.int (Own.bz ((Own.Mp nn ksf vsf 9) xx).isSome)), .val (.int la), .unset, .unset] [] := by
                                      intro la hR
                                      have L5 : ∀ la : Int32, Own.RR nn ksf vsf xx 5 la → Own.W l Z room_1 K (fun rr h' => rr = some (.int (1 : Int32)) ∧ True) hh 18 175 525 #[.val (.int u0), .val (.int u1), .val (.int u2), .val (.long u3), .second, .val (.int u4), .val (.int u5), .val (.ref a1), .val (.ref a24), .val (.int nn), .val (.int (((u5.toUInt32 >>> ((14 : Int32) &&& 31).toUInt32).toInt32) &&& (15 : Int32))), .val (.int xx), .val (.ref a174), .val g, .val (.int (Own.bz ((Own.Mp nn ksf vsf 9) xx).isSome)), .val (.int la), .unset, .unset] [] := by
                                        intro la hR
                                        have L6 : ∀ la : Int32, Own.RR nn ksf vsf xx 6 la → Own.W l Z room_1 K (fun rr h' => rr = some (.int (1 : Int32)) ∧ True) hh 18 175 543 #[.val (.int u0), .val (.int u1), .val (.int u2), .val (.long u3), .second, .val (.int u4), .val (.int u5), .val (.ref a1), .val (.ref a24), .val (.int nn), .val (.int (((u5.toUInt32 >>> ((14 : Int32) &&& 31).toUInt32).toInt32) &&& (15 : Int32))), .val (.int xx), .val (.ref a174), .val g, .val (.int (Own.bz ((Own.Mp nn ksf vsf 9) xx).isSome)), .val (.int la), .unset, .unset] [] := by
                                          intro la hR
                                          have L7 : ∀ la : Int32, Own.RR nn ksf vsf xx 7 la → Own.W l Z room_1 K (fun rr h' => rr = some (.int (1 : Int32)) ∧ True) hh 18 175 564 #[.val (.int u0), .val (.int u1), .val (.int u2), .val (.long u3), .second, .val (.int u4), .val (.int u5), .val (.ref a1), .val (.ref a24), .val (.int nn), .val (.int (((u5.toUInt32 >>> ((14 : Int32) &&& 31).toUInt32).toInt32) &&& (15 : Int32))), .val (.int xx), .val (.ref a174), .val g, .val (.int (Own.bz ((Own.Mp nn ksf vsf 9) xx).isSome)), .val (.int la), .unset, .unset] [] := by
                                            intro la hR
                                            have L8 : ∀ la : Int32, Own.RR nn ksf vsf xx 8 la → Own.W l Z room_1 K (fun rr h' => rr = some (.int (1 : Int32)) ∧ True) hh 18 175 585 #[.val (.int u0), .val (.int u1), .val (.int u2), .val (.long u3), .second, .val (.int u4), .val (.int u5), .val (.ref a1), .val (.ref a24), .val (.int nn), .val (.int (((u5.toUInt32 >>> ((14 : Int32) &&& 31).toUInt32).toInt32) &&& (15 : Int32))), .val (.int xx), .val (.ref a174), .val g, .val (.int (Own.bz ((Own.Mp nn ksf vsf 9) xx).isSome)), .val (.int la), .unset, .unset] [] := by
                                              intro la hR
                                              have L9 : ∀ la : Int32, Own.RR nn ksf vsf xx 9 la → Own.W l Z room_1 K (fun rr h' => rr = some (.int (1 : Int32)) ∧ True) hh 18 175 606 #[.val (.int u0), .val (.int u1), .val (.int u2), .val (.long u3), .second, .val (.int u4), .val (.int u5), .val (.ref a1), .val (.ref a24), .val (.int nn), .val (.int (((u5.toUInt32 >>> ((14 : Int32) &&& 31).toUInt32).toInt32) &&& (15 : Int32))), .val (.int xx), .val (.ref a174), .val g, .val (.int (Own.bz ((Own.Mp nn ksf vsf 9) xx).isSome)), .val (.int la), .unset, .unset] [] := by
                                                intro la hR
                                                rcases hR with ⟨rfl, hM⟩ | ⟨j, hj, rfl, hM⟩
                                                · have eg' : g = .null := eg.trans (Own.gv_none hM)
                                                  subst eg'
                                                  rw [hM]
                                                  show Own.W l Z _ K _ hh 18 175 606 #[.val (.int u0), .val (.int u1), .val (.int u2), .val (.long u3), .second, .val (.int u4), .val (.int u5), .val (.ref a1), .val (.ref a24), .val (.int nn), .val (.int (((u5.toUInt32 >>> ((14 : Int32) &&& 31).toUInt32).toInt32) &&& (15 : Int32))), .val (.int xx), .val (.ref a174), .val .null, .val (.int (0 : Int32)), .val (.int (-1 : Int32)), .unset, .unset] []
                                                  refine Own.W.iload ok at_606 608 rfl ?_
                                                  refine Own.W.ifT ok at_608 615 (by decide : (-1 : Int32) < (0 : Int32)) ?_
                                                  refine Own.W.iconst ok at_615 616 (0 : Int32) rfl ?_
                                                  refine Own.W.istore ok at_616 618 #[.val (.int u0), .val (.int u1), .val (.int u2), .val (.long u3), .second, .val (.int u4), .val (.int u5), .val (.ref a1), .val (.ref a24), .val (.int nn), .val (.int (((u5.toUInt32 >>> ((14 : Int32) &&& 31).toUInt32).toInt32) &&& (15 : Int32))), .val (.int xx), .val (.ref a174), .val .null, .val (.int (0 : Int32)), .val (.int (-1 : Int32)), .val (.int (0 : Int32)), .unset] rfl ?_
                                                  refine Own.W.iload ok at_618 620 rfl ?_
                                                  refine Own.W.ifT ok at_620 631 (by decide : (0 : Int32) = (0 : Int32)) ?_
                                                  refine Own.W.aconstNull ok at_631 632 ?_
                                                  refine Own.W.astore ok at_632 634 #[.val (.int u0), .val (.int u1), .val (.int u2), .val (.long u3), .second, .val (.int u4), .val (.int u5), .val (.ref a1), .val (.ref a24), .val (.int nn), .val (.int (((u5.toUInt32 >>> ((14 : Int32) &&& 31).toUInt32).toInt32) &&& (15 : Int32))), .val (.int xx), .val (.ref a174), .val .null, .val (.int (0 : Int32)), .val (.int (-1 : Int32)), .val (.int (0 : Int32)), .val .null] rfl rfl ?_
                                                  refine Own.W.iload ok at_634 636 rfl ?_
                                                  refine Own.W.iload ok at_636 638 rfl ?_
                                                  refine Own.W.icmpF ok at_638 641 (by decide : (0 : Int32) = (0 : Int32)) ?_
                                                  refine Own.W.aload ok at_641 643 rfl rfl ?_
                                                  refine Own.W.aload ok at_643 645 rfl rfl ?_
                                                  refine Own.W.callS ok tb (argsL := [.null, .null]) (rest := []) 70 71 5 72 rfl rfl rfl rfl at_645 pd_8 (c_same0 l tb  hh) 0 18 175 648 ?_
                                                  rintro _ _ ⟨rfl, rfl⟩
                                                  show Own.W l Z _ K _ hh 18 175 648 #[.val (.int u0), .val (.int u1), .val (.int u2), .val (.long u3), .second, .val (.int u4), .val (.int u5), .val (.ref a1), .val (.ref a24), .val (.int nn), .val (.int (((u5.toUInt32 >>> ((14 : Int32) &&& 31).toUInt32).toInt32) &&& (15 : Int32))), .val (.int xx), .val (.ref a174), .val .null, .val (.int (0 : Int32)), .val (.int (-1 : Int32)), .val (.int (0 : Int32)), .val .null] [(.int (1 : Int32))]
                                                  refine Own.W.ifF ok at_648 651 (by decide : ¬ ((1 : Int32) = (0 : Int32))) ?_
                                                  refine Own.W.iconst ok at_651 652 (1 : Int32) rfl ?_
                                                  refine Own.W.goto ok at_652 656 ?_
                                                  exact Own.W.iret ok at_656 rfl ⟨rfl, trivial⟩
                                                · have eg' : g = vsf j := eg.trans (Own.gv_some hM)
                                                  have hvj : ([u35, u47, u60, u74, u89, u105, u122, u140, u159] : List Value)[j.toInt32.toNatClampNeg]? = some (vsf j) := by
                                                    rw [(Own.ix (by omega : j < 2 ^ 31)).1]
                                                    rcases j with _ | _ | _ | _ | _ | _ | _ | _ | _ | j
                                                    · exact congrArg some ev0.symm
                                                    · exact congrArg some ev1.symm
                                                    · exact congrArg some ev2.symm
                                                    · exact congrArg some ev3.symm
                                                    · exact congrArg some ev4.symm
                                                    · exact congrArg some ev5.symm
                                                    · exact congrArg some ev6.symm
                                                    · exact congrArg some ev7.symm
                                                    · exact congrArg some ev8.symm
                                                    · omega
                                                  rw [hM]
                                                  rw [← eg'] at hvj
                                                  show Own.W l Z _ K _ hh 18 175 606 #[.val (.int u0), .val (.int u1), .val (.int u2), .val (.long u3), .second, .val (.int u4), .val (.int u5), .val (.ref a1), .val (.ref a24), .val (.int nn), .val (.int (((u5.toUInt32 >>> ((14 : Int32) &&& 31).toUInt32).toInt32) &&& (15 : Int32))), .val (.int xx), .val (.ref a174), .val g, .val (.int (1 : Int32)), .val (.int (j.toInt32)), .unset, .unset] []
                                                  refine Own.W.iload ok at_606 608 rfl ?_
                                                  refine Own.W.ifF ok at_608 611 (j_nn hj) ?_
                                                  refine Own.W.iconst ok at_611 612 (1 : Int32) rfl ?_
                                                  refine Own.W.goto ok at_612 616 ?_
                                                  refine Own.W.istore ok at_616 618 #[.val (.int u0), .val (.int u1), .val (.int u2), .val (.long u3), .second, .val (.int u4), .val (.int u5), .val (.ref a1), .val (.ref a24), .val (.int nn), .val (.int (((u5.toUInt32 >>> ((14 : Int32) &&& 31).toUInt32).toInt32) &&& (15 : Int32))), .val (.int xx), .val (.ref a174), .val g, .val (.int (1 : Int32)), .val (.int (j.toInt32)), .val (.int (1 : Int32)), .unset] rfl ?_
                                                  refine Own.W.iload ok at_618 620 rfl ?_
                                                  refine Own.W.ifF ok at_620 623 (by decide : ¬ ((1 : Int32) = (0 : Int32))) ?_
                                                  refine Own.W.aload ok at_623 625 rfl rfl ?_
                                                  refine Own.W.iload ok at_625 627 rfl ?_
                                                  refine Own.W.aald ok H194 (i := 4) rfl (j_nn hj) hvj at_627 628 ?_
                                                  refine Own.W.goto ok at_628 632 ?_
                                                  refine Own.W.astore ok at_632 634 #[.val (.int u0), .val (.int u1), .val (.int u2), .val (.long u3), .second, .val (.int u4), .val (.int u5), .val (.ref a1), .val (.ref a24), .val (.int nn), .val (.int (((u5.toUInt32 >>> ((14 : Int32) &&& 31).toUInt32).toInt32) &&& (15 : Int32))), .val (.int xx), .val (.ref a174), .val g, .val (.int (1 : Int32)), .val (.int (j.toInt32)), .val (.int (1 : Int32)), .val g] hg.ref (by rcases ref_cases hg.ref with e | ⟨_, e⟩ <;> rw [e] <;> rfl) ?_
                                                  refine Own.W.iload ok at_634 636 rfl ?_
                                                  refine Own.W.iload ok at_636 638 rfl ?_
                                                  refine Own.W.icmpF ok at_638 641 (by decide : (1 : Int32) = (1 : Int32)) ?_
                                                  refine Own.W.aload ok at_641 643 rfl hg.ref ?_
                                                  refine Own.W.aload ok at_643 645 rfl hg.ref ?_
                                                  rcases hg with e | ⟨b, q, e, mm⟩
                                                  · subst e
                                                    show Own.W l Z _ K _ hh 18 175 645 #[.val (.int u0), .val (.int u1), .val (.int u2), .val (.long u3), .second, .val (.int u4), .val (.int u5), .val (.ref a1), .val (.ref a24), .val (.int nn), .val (.int (((u5.toUInt32 >>> ((14 : Int32) &&& 31).toUInt32).toInt32) &&& (15 : Int32))), .val (.int xx), .val (.ref a174), .val .null, .val (.int (1 : Int32)), .val (.int (j.toInt32)), .val (.int (1 : Int32)), .val .null] [.null, .null]
                                                    refine Own.W.callS ok tb (argsL := [.null, .null]) (rest := []) 70 71 5 72 rfl rfl rfl rfl at_645 pd_8 (c_same0 l tb  hh) 0 18 175 648 ?_
                                                    rintro _ _ ⟨rfl, rfl⟩
                                                    show Own.W l Z _ K _ hh 18 175 648 #[.val (.int u0), .val (.int u1), .val (.int u2), .val (.long u3), .second, .val (.int u4), .val (.int u5), .val (.ref a1), .val (.ref a24), .val (.int nn), .val (.int (((u5.toUInt32 >>> ((14 : Int32) &&& 31).toUInt32).toInt32) &&& (15 : Int32))), .val (.int xx), .val (.ref a174), .val .null, .val (.int (1 : Int32)), .val (.int (j.toInt32)), .val (.int (1 : Int32)), .val .null] [(.int (1 : Int32))]
                                                    refine Own.W.ifF ok at_648 651 (by decide : ¬ ((1 : Int32) = (0 : Int32))) ?_
                                                    refine Own.W.iconst ok at_651 652 (1 : Int32) rfl ?_
                                                    refine Own.W.goto ok at_652 656 ?_
                                                    exact Own.W.iret ok at_656 rfl ⟨rfl, trivial⟩
                                                  · subst e
                                                    show Own.W l Z _ K _ hh 18 175 645 #[.val (.int u0), .val (.int u1), .val (.int u2), .val (.long u3), .second, .val (.int u4), .val (.int u5), .val (.ref a1), .val (.ref a24), .val (.int nn), .val (.int (((u5.toUInt32 >>> ((14 : Int32) &&& 31).toUInt32).toInt32) &&& (15 : Int32))), .val (.int xx), .val (.ref a174), .val (.ref b), .val (.int (1 : Int32)), .val (.int (j.toInt32)), .val (.int (1 : Int32)), .val (.ref b)] [(.ref b), (.ref b)]
                                                    refine Own.W.callS ok tb (argsL := [(.ref b), (.ref b)]) (rest := []) 70 71 5 72 rfl rfl rfl rfl at_645 pd_8 (c_same1 l tb b q hh (Own.VOK.ins H194 (fun q hq => List.mem_cons_of_mem _ (List.mem_cons_of_mem _ (List.mem_cons_of_mem _ (List.mem_cons_of_mem _ (List.mem_cons_of_mem _ (List.mem_cons_of_mem _ (hq))))))) mm).1 (Own.VOK.ins H194 (fun q hq => List.mem_cons_of_mem _ (List.mem_cons_of_mem _ (List.mem_cons_of_mem _ (List.mem_cons_of_mem _ (List.mem_cons_of_mem _ (List.mem_cons_of_mem _ (hq))))))) mm).2) 0 18 175 648 ?_
                                                    rintro _ _ ⟨rfl, rfl⟩
                                                    show Own.W l Z _ K _ hh 18 175 648 #[.val (.int u0), .val (.int u1), .val (.int u2), .val (.long u3), .second, .val (.int u4), .val (.int u5), .val (.ref a1), .val (.ref a24), .val (.int nn), .val (.int (((u5.toUInt32 >>> ((14 : Int32) &&& 31).toUInt32).toInt32) &&& (15 : Int32))), .val (.int xx), .val (.ref a174), .val (.ref b), .val (.int (1 : Int32)), .val (.int (j.toInt32)), .val (.int (1 : Int32)), .val (.ref b)] [(.int (1 : Int32))]
                                                    refine Own.W.ifF ok at_648 651 (by decide : ¬ ((1 : Int32) = (0 : Int32))) ?_
                                                    refine Own.W.iconst ok at_651 652 (1 : Int32) rfl ?_
                                                    refine Own.W.goto ok at_652 656 ?_
                                                    exact Own.W.iret ok at_656 rfl ⟨rfl, trivial⟩
                                              refine Own.W.iload ok at_585 587 rfl ?_
                                              refine Own.W.bipush ok at_587 589 (8 : Int32) rfl ?_
                                              refine Own.W.icmp ok at_589 606 592 (fun (hc195 : ¬ ((8 : Int32) < nn)) => ?_) (fun (hc195 : (8 : Int32) < nn) => ?_)
                                              · exact L9 la (hR.skip hc195)
                                              · refine Own.W.aload ok at_592 594 rfl rfl ?_
                                                refine Own.W.bipush ok at_594 596 (8 : Int32) rfl ?_
                                                refine Own.W.iald ok H194 (i := 5) rfl (by decide) rfl at_596 597 ?_
                                                refine Own.W.iload ok at_597 599 rfl ?_
                                                refine Own.W.icmp ok at_599 606 602 (fun (hc196 : ¬ (u4 = xx)) => ?_) (fun (hc196 : u4 = xx) => ?_)
                                                · exact L9 la (hR.miss hc195 (by rw [ek8]; exact hc196))
                                                · refine Own.W.bipush ok at_602 604 (8 : Int32) rfl ?_
                                                  refine Own.W.istore ok at_604 606 #[.val (.int u0), .val (.int u1), .val (.int u2), .val (.long u3), .second, .val (.int u4), .val (.int u5), .val (.ref a1), .val (.ref a24), .val (.int nn), .val (.int (((u5.toUInt32 >>> ((14 : Int32) &&& 31).toUInt32).toInt32) &&& (15 : Int32))), .val (.int xx), .val (.ref a174), .val g, .val (.int (Own.bz ((Own.Mp nn ksf vsf 9) xx).isSome)), .val (.int (8 : Int32)), .unset, .unset] rfl ?_
                                                  exact L9 _ (Own.RR.hit hc195 (by rw [ek8]; exact hc196))
                                            refine Own.W.iload ok at_564 566 rfl ?_
                                            refine Own.W.bipush ok at_566 568 (7 : Int32) rfl ?_
                                            refine Own.W.icmp ok at_568 585 571 (fun (hc197 : ¬ ((7 : Int32) < nn)) => ?_) (fun (hc197 : (7 : Int32) < nn) => ?_)
                                            · exact L8 la (hR.skip hc197)
                                            · refine Own.W.aload ok at_571 573 rfl rfl ?_
                                              refine Own.W.bipush ok at_573 575 (7 : Int32) rfl ?_
                                              refine Own.W.iald ok H194 (i := 5) rfl (by decide) rfl at_575 576 ?_
                                              refine Own.W.iload ok at_576 578 rfl ?_
                                              refine Own.W.icmp ok at_578 585 581 (fun (hc198 : ¬ ((u2 + (1 : Int32)) = xx)) => ?_) (fun (hc198 : (u2 + (1 : Int32)) = xx) => ?_)
                                              · exact L8 la (hR.miss hc197 (by rw [ek7]; exact hc198))
                                              · refine Own.W.bipush ok at_581 583 (7 : Int32) rfl ?_
                                                refine Own.W.istore ok at_583 585 #[.val (.int u0), .val (.int u1), .val (.int u2), .val (.long u3), .second, .val (.int u4), .val (.int u5), .val (.ref a1), .val (.ref a24), .val (.int nn), .val (.int (((u5.toUInt32 >>> ((14 : Int32) &&& 31).toUInt32).toInt32) &&& (15 : Int32))), .val (.int xx), .val (.ref a174), .val g, .val (.int (Own.bz ((Own.Mp nn ksf vsf 9) xx).isSome)), .val (.int (7 : Int32)), .unset, .unset] rfl ?_
                                                exact L8 _ (Own.RR.hit hc197 (by rw [ek7]; exact hc198))
                                          refine Own.W.iload ok at_543 545 rfl ?_
                                          refine Own.W.bipush ok at_545 547 (6 : Int32) rfl ?_
                                          refine Own.W.icmp ok at_547 564 550 (fun (hc199 : ¬ ((6 : Int32) < nn)) => ?_) (fun (hc199 : (6 : Int32) < nn) => ?_)
                                          · exact L7 la (hR.skip hc199)
                                          · refine Own.W.aload ok at_550 552 rfl rfl ?_
                                            refine Own.W.bipush ok at_552 554 (6 : Int32) rfl ?_
                                            refine Own.W.iald ok H194 (i := 5) rfl (by decide) rfl at_554 555 ?_
                                            refine Own.W.iload ok at_555 557 rfl ?_
                                            refine Own.W.icmp ok at_557 564 560 (fun (hc200 : ¬ ((u1 + (1 : Int32)) = xx)) => ?_) (fun (hc200 : (u1 + (1 : Int32)) = xx) => ?_)
                                            · exact L7 la (hR.miss hc199 (by rw [ek6]; exact hc200))
                                            · refine Own.W.bipush ok at_560 562 (6 : Int32) rfl ?_
                                              refine Own.W.istore ok at_562 564 #[.val (.int u0), .val (.int u1), .val (.int u2), .val (.long u3), .second, .val (.int u4), .val (.int u5), .val (.ref a1), .val (.ref a24), .val (.int nn), .val (.int (((u5.toUInt32 >>> ((14 : Int32) &&& 31).toUInt32).toInt32) &&& (15 : Int32))), .val (.int xx), .val (.ref a174), .val g, .val (.int (Own.bz ((Own.Mp nn ksf vsf 9) xx).isSome)), .val (.int (6 : Int32)), .unset, .unset] rfl ?_
                                              exact L7 _ (Own.RR.hit hc199 (by rw [ek6]; exact hc200))
                                        refine Own.W.iload ok at_525 527 rfl ?_
                                        refine Own.W.iconst ok at_527 528 (5 : Int32) rfl ?_
                                        refine Own.W.icmp ok at_528 543 531 (fun (hc201 : ¬ ((5 : Int32) < nn)) => ?_) (fun (hc201 : (5 : Int32) < nn) => ?_)
                                        · exact L6 la (hR.skip hc201)
                                        · refine Own.W.aload ok at_531 533 rfl rfl ?_
                                          refine Own.W.iconst ok at_533 534 (5 : Int32) rfl ?_
                                          refine Own.W.iald ok H194 (i := 5) rfl (by decide) rfl at_534 535 ?_
                                          refine Own.W.iload ok at_535 537 rfl ?_
                                          refine Own.W.icmp ok at_537 543 540 (fun (hc202 : ¬ ((u0 + (1 : Int32)) = xx)) => ?_) (fun (hc202 : (u0 + (1 : Int32)) = xx) => ?_)
                                          · exact L6 la (hR.miss hc201 (by rw [ek5]; exact hc202))
                                          · refine Own.W.iconst ok at_540 541 (5 : Int32) rfl ?_
                                            refine Own.W.istore ok at_541 543 #[.val (.int u0), .val (.int u1), .val (.int u2), .val (.long u3), .second, .val (.int u4), .val (.int u5), .val (.ref a1), .val (.ref a24), .val (.int nn), .val (.int (((u5.toUInt32 >>> ((14 : Int32) &&& 31).toUInt32).toInt32) &&& (15 : Int32))), .val (.int xx), .val (.ref a174), .val g, .val (.int (Own.bz ((Own.Mp nn ksf vsf 9) xx).isSome)), .val (.int (5 : Int32)), .unset, .unset] rfl ?_
                                            exact L6 _ (Own.RR.hit hc201 (by rw [ek5]; exact hc202))
                                      refine Own.W.iload ok at_507 509 rfl ?_
                                      refine Own.W.iconst ok at_509 510 (4 : Int32) rfl ?_
                                      refine Own.W.icmp ok at_510 525 513 (fun (hc203 : ¬ ((4 : Int32) < nn)) => ?_) (fun (hc203 : (4 : Int32) < nn) => ?_)
                                      · exact L5 la (hR.skip hc203)
                                      · refine Own.W.aload ok at_513 515 rfl rfl ?_
                                        refine Own.W.iconst ok at_515 516 (4 : Int32) rfl ?_
                                        refine Own.W.iald ok H194 (i := 5) rfl (by decide) rfl at_516 517 ?_
                                        refine Own.W.iload ok at_517 519 rfl ?_
                                        refine Own.W.icmp ok at_519 525 522 (fun (hc204 : ¬ ((((u3.toUInt64 >>> ((32 : Int32) &&& 0x3f).toInt64.toUInt64).toInt64).toInt32) = xx)) => ?_) (fun (hc204 : (((u3.toUInt64 >>> ((32 : Int32) &&& 0x3f).toInt64.toUInt64).toInt64).toInt32) = xx) => ?_)
                                        · exact L5 la (hR.miss hc203 (by rw [ek4]; exact hc204))
                                        · refine Own.W.iconst ok at_522 523 (4 : Int32) rfl ?_
                                          refine Own.W.istore ok at_523 525 #[.val (.int u0), .val (.int u1), .val (.int u2), .val (.long u3), .second, .val (.int u4), .val (.int u5), .val (.ref a1), .val (.ref a24), .val (.int nn), .val (.int (((u5.toUInt32 >>> ((14 : Int32) &&& 31).toUInt32).toInt32) &&& (15 : Int32))), .val (.int xx), .val (.ref a174), .val g, .val (.int (Own.bz ((Own.Mp nn ksf vsf 9) xx).isSome)), .val (.int (4 : Int32)), .unset, .unset] rfl ?_
                                          exact L5 _ (Own.RR.hit hc203 (by rw [ek4]; exact hc204))
                                    refine Own.W.iload ok at_489 491 rfl ?_
                                    refine Own.W.iconst ok at_491 492 (3 : Int32) rfl ?_
                                    refine Own.W.icmp ok at_492 507 495 (fun (hc205 : ¬ ((3 : Int32) < nn)) => ?_) (fun (hc205 : (3 : Int32) < nn) => ?_)
                                    · exact L4 la (hR.skip hc205)
                                    · refine Own.W.aload ok at_495 497 rfl rfl ?_
                                      refine Own.W.iconst ok at_497 498 (3 : Int32) rfl ?_
                                      refine Own.W.iald ok H194 (i := 5) rfl (by decide) rfl at_498 499 ?_
                                      refine Own.W.iload ok at_499 501 rfl ?_
                                      refine Own.W.icmp ok at_501 507 504 (fun (hc206 : ¬ ((u3.toInt32) = xx)) => ?_) (fun (hc206 : (u3.toInt32) = xx) => ?_)
                                      · exact L4 la (hR.miss hc205 (by rw [ek3]; exact hc206))
                                      · refine Own.W.iconst ok at_504 505 (3 : Int32) rfl ?_
                                        refine Own.W.istore ok at_505 507 #[.val (.int u0), .val (.int u1), .val (.int u2), .val (.long u3), .second, .val (.int u4), .val (.int u5), .val (.ref a1), .val (.ref a24), .val (.int nn), .val (.int (((u5.toUInt32 >>> ((14 : Int32) &&& 31).toUInt32).toInt32) &&& (15 : Int32))), .val (.int xx), .val (.ref a174), .val g, .val (.int (Own.bz ((Own.Mp nn ksf vsf 9) xx).isSome)), .val (.int (3 : Int32)), .unset, .unset] rfl ?_
                                        exact L4 _ (Own.RR.hit hc205 (by rw [ek3]; exact hc206))
                                  refine Own.W.iload ok at_471 473 rfl ?_
                                  refine Own.W.iconst ok at_473 474 (2 : Int32) rfl ?_
                                  refine Own.W.icmp ok at_474 489 477 (fun (hc207 : ¬ ((2 : Int32) < nn)) => ?_) (fun (hc207 : (2 : Int32) < nn) => ?_)
                                  · exact L3 la (hR.skip hc207)
                                  · refine Own.W.aload ok at_477 479 rfl rfl ?_
                                    refine Own.W.iconst ok at_479 480 (2 : Int32) rfl ?_
                                    refine Own.W.iald ok H194 (i := 5) rfl (by decide) rfl at_480 481 ?_
                                    refine Own.W.iload ok at_481 483 rfl ?_
                                    refine Own.W.icmp ok at_483 489 486 (fun (hc208 : ¬ (u2 = xx)) => ?_) (fun (hc208 : u2 = xx) => ?_)
                                    · exact L3 la (hR.miss hc207 (by rw [ek2]; exact hc208))
                                    · refine Own.W.iconst ok at_486 487 (2 : Int32) rfl ?_
                                      refine Own.W.istore ok at_487 489 #[.val (.int u0), .val (.int u1), .val (.int u2), .val (.long u3), .second, .val (.int u4), .val (.int u5), .val (.ref a1), .val (.ref a24), .val (.int nn), .val (.int (((u5.toUInt32 >>> ((14 : Int32) &&& 31).toUInt32).toInt32) &&& (15 : Int32))), .val (.int xx), .val (.ref a174), .val g, .val (.int (Own.bz ((Own.Mp nn ksf vsf 9) xx).isSome)), .val (.int (2 : Int32)), .unset, .unset] rfl ?_
                                      exact L3 _ (Own.RR.hit hc207 (by rw [ek2]; exact hc208))
                                refine Own.W.iload ok at_453 455 rfl ?_
                                refine Own.W.iconst ok at_455 456 (1 : Int32) rfl ?_
                                refine Own.W.icmp ok at_456 471 459 (fun (hc209 : ¬ ((1 : Int32) < nn)) => ?_) (fun (hc209 : (1 : Int32) < nn) => ?_)
                                · exact L2 la (hR.skip hc209)
                                · refine Own.W.aload ok at_459 461 rfl rfl ?_
                                  refine Own.W.iconst ok at_461 462 (1 : Int32) rfl ?_
                                  refine Own.W.iald ok H194 (i := 5) rfl (by decide) rfl at_462 463 ?_
                                  refine Own.W.iload ok at_463 465 rfl ?_
                                  refine Own.W.icmp ok at_465 471 468 (fun (hc210 : ¬ (kb = xx)) => ?_) (fun (hc210 : kb = xx) => ?_)
                                  · exact L2 la (hR.miss hc209 (by rw [ek1]; exact hc210))
                                  · refine Own.W.iconst ok at_468 469 (1 : Int32) rfl ?_
                                    refine Own.W.istore ok at_469 471 #[.val (.int u0), .val (.int u1), .val (.int u2), .val (.long u3), .second, .val (.int u4), .val (.int u5), .val (.ref a1), .val (.ref a24), .val (.int nn), .val (.int (((u5.toUInt32 >>> ((14 : Int32) &&& 31).toUInt32).toInt32) &&& (15 : Int32))), .val (.int xx), .val (.ref a174), .val g, .val (.int (Own.bz ((Own.Mp nn ksf vsf 9) xx).isSome)), .val (.int (1 : Int32)), .unset, .unset] rfl ?_
                                    exact L2 _ (Own.RR.hit hc209 (by rw [ek1]; exact hc210))
                              refine Own.W.iload ok at_436 438 rfl ?_
                              refine Own.W.iff ok at_438 453 441 (fun (hc211 : ¬ ((0 : Int32) < nn)) => ?_) (fun (hc211 : (0 : Int32) < nn) => ?_)
                              · exact L1 la (hR.skip hc211)
                              · refine Own.W.aload ok at_441 443 rfl rfl ?_
                                refine Own.W.iconst ok at_443 444 (0 : Int32) rfl ?_
                                refine Own.W.iald ok H194 (i := 5) rfl (by decide) rfl at_444 445 ?_
                                refine Own.W.iload ok at_445 447 rfl ?_
                                refine Own.W.icmp ok at_447 453 450 (fun (hc212 : ¬ (u0 = xx)) => ?_) (fun (hc212 : u0 = xx) => ?_)
                                · exact L1 la (hR.miss hc211 (by rw [ek0]; exact hc212))
                                · refine Own.W.iconst ok at_450 451 (0 : Int32) rfl ?_
                                  refine Own.W.istore ok at_451 453 #[.val (.int u0), .val (.int u1), .val (.int u2), .val (.long u3), .second, .val (.int u4), .val (.int u5), .val (.ref a1), .val (.ref a24), .val (.int nn), .val (.int (((u5.toUInt32 >>> ((14 : Int32) &&& 31).toUInt32).toInt32) &&& (15 : Int32))), .val (.int xx), .val (.ref a174), .val g, .val (.int (Own.bz ((Own.Mp nn ksf vsf 9) xx).isSome)), .val (.int (0 : Int32)), .unset, .unset] rfl ?_
                                  exact L1 _ (Own.RR.hit hc211 (by rw [ek0]; exact hc212))
                            exact L0 _ (Own.RR.zero _ _ _ _)
                          rcases hq190 with e | ⟨b, q, e, mm⟩
                          · rw [e]
                            refine Own.W.castN ok at_419 422 ?_
                            exact J _ e.symm (Or.inl rfl)
                          · rw [e]
                            refine Own.W.castY ok tb 1 rfl (Ins.self (Own.VOK.ins H189 (fun q hq => List.mem_cons_of_mem _ (List.mem_cons_of_mem _ (List.mem_cons_of_mem _ (List.mem_cons_of_mem _ (List.mem_cons_of_mem _ (List.mem_cons_of_mem _ (hq))))))) mm).1) at_419 422 ?_
                            exact J _ e.symm (Or.inr ⟨_, _, rfl, mm⟩)
                        refine Own.W.iload ok at_390 392 rfl ?_
                        refine Own.W.bipush ok at_392 394 (8 : Int32) rfl ?_
                        refine Own.W.icmp ok at_394 412 397 (fun (hc213 : ¬ ((8 : Int32) < nn)) => ?_) (fun (hc213 : (8 : Int32) < nn) => ?_)
                        · refine Own.W.more (cc' := 18) (ss' := 175) (by decide) (by decide) ?_
                          exact J9 _ ka va ha kk kv kh n Kf Hf Vf zz Hh (by rw [Mp_skip hc213]; exact TT) (Nat.le_succ_of_le hz) hV Ov
                        · refine Own.W.aload ok at_397 399 rfl rfl ?_
                          refine Own.W.aload ok at_399 401 rfl rfl ?_
                          refine Own.W.bipush ok at_401 403 (8 : Int32) rfl ?_
                          refine Own.W.iald ok Hh (i := 5) rfl (by decide) rfl at_403 404 ?_
                          refine Own.W.aload ok at_404 406 rfl rfl ?_
                          refine Own.W.bipush ok at_406 408 (8 : Int32) rfl ?_
                          refine Own.W.aald ok Hh (i := 4) rfl (by decide) rfl at_408 409 ?_
                          have H214 : Own.HS Z hh ((ha, .inr (.boolean, kh, (Own.tH n Hf))) :: (a174, o_IT (.ref ka) (.ref va) (.ref ha) (.int (zz.toInt32))) :: (ka, .inr (.int, kk, (Own.tK n Kf))) :: (va, .inr ((.object "java/lang/Object"), kv, (Own.tab n Vf))) :: (a24, .inr ((.object "java/lang/Integer"), k25, [u35, u47, u60, u74, u89, u105, u122, u140, u159])) :: (a1, .inr (.int, k2, [(.int u0), (.int kb), (.int u2), (.int (u3.toInt32)), (.int (((u3.toUInt64 >>> ((32 : Int32) &&& 0x3f).toInt64.toUInt64).toInt64).toInt32)), (.int (u0 + (1 : Int32))), (.int (u1 + (1 : Int32))), (.int (u2 + (1 : Int32))), (.int u4)])) :: tl160) := Hh.pull 3 _ rfl rfl
                          have H215 : Own.HS Z hh ((va, .inr ((.object "java/lang/Object"), kv, (Own.tab n Vf))) :: (ha, .inr (.boolean, kh, (Own.tH n Hf))) :: (a174, o_IT (.ref ka) (.ref va) (.ref ha) (.int (zz.toInt32))) :: (ka, .inr (.int, kk, (Own.tK n Kf))) :: (a24, .inr ((.object "java/lang/Integer"), k25, [u35, u47, u60, u74, u89, u105, u122, u140, u159])) :: (a1, .inr (.int, k2, [(.int u0), (.int kb), (.int u2), (.int (u3.toInt32)), (.int (((u3.toUInt64 >>> ((32 : Int32) &&& 0x3f).toInt64.toUInt64).toInt64).toInt32)), (.int (u0 + (1 : Int32))), (.int (u1 + (1 : Int32))), (.int (u2 + (1 : Int32))), (.int u4)])) :: tl160) := H214.pull 3 _ rfl rfl
                          have H216 : Own.HS Z hh ((ka, .inr (.int, kk, (Own.tK n Kf))) :: (va, .inr ((.object "java/lang/Object"), kv, (Own.tab n Vf))) :: (ha, .inr (.boolean, kh, (Own.tH n Hf))) :: (a174, o_IT (.ref ka) (.ref va) (.ref ha) (.int (zz.toInt32))) :: (a24, .inr ((.object "java/lang/Integer"), k25, [u35, u47, u60, u74, u89, u105, u122, u140, u159])) :: (a1, .inr (.int, k2, [(.int u0), (.int kb), (.int u2), (.int (u3.toInt32)), (.int (((u3.toUInt64 >>> ((32 : Int32) &&& 0x3f).toInt64.toUInt64).toInt64).toInt32)), (.int (u0 + (1 : Int32))), (.int (u1 + (1 : Int32))), (.int (u2 + (1 : Int32))), (.int u4)])) :: tl160) := H215.pull 3 _ rfl rfl
                          have H217 : Own.HS Z hh ((a174, o_IT (.ref ka) (.ref va) (.ref ha) (.int (zz.toInt32))) :: (ka, .inr (.int, kk, (Own.tK n Kf))) :: (va, .inr ((.object "java/lang/Object"), kv, (Own.tab n Vf))) :: (ha, .inr (.boolean, kh, (Own.tH n Hf))) :: (a24, .inr ((.object "java/lang/Integer"), k25, [u35, u47, u60, u74, u89, u105, u122, u140, u159])) :: (a1, .inr (.int, k2, [(.int u0), (.int kb), (.int u2), (.int (u3.toInt32)), (.int (((u3.toUInt64 >>> ((32 : Int32) &&& 0x3f).toInt64.toUInt64).toInt64).toInt32)), (.int (u0 + (1 : Int32))), (.int (u1 + (1 : Int32))), (.int (u2 + (1 : Int32))), (.int u4)])) :: tl160) := H216.pull 3 _ rfl rfl
                          refine Own.W.callV ok tb (a := a174) (argsL := [(.int u4), u159]) (rest := []) 47 48 50 49 51 33 rfl rfl rfl rfl rfl rfl (notFace_of_selects (args := #[]) (mvT ok.2.1 (tb _ (List.mem_of_getElem? (i := 50) rfl)))) (H217.exa (i := 0) rfl) at_409 pd_9 (c_putB l tb a174 ka va ha kk kv kh n Kf Hf Vf zz u4 u159 (Own.Mp nn ksf vsf 8) tl160 hh ((a24, .inr ((.object "java/lang/Integer"), k25, [u35, u47, u60, u74, u89, u105, u122, u140, u159])) :: (a1, .inr (.int, k2, [(.int u0), (.int kb), (.int u2), (.int (u3.toInt32)), (.int (((u3.toUInt64 >>> ((32 : Int32) &&& 0x3f).toInt64.toUInt64).toInt64).toInt32)), (.int (u0 + (1 : Int32))), (.int (u1 + (1 : Int32))), (.int (u2 + (1 : Int32))), (.int u4)])) :: tl160) H217 TT (Nat.le_trans hz (by decide)) hq161 hV (fun q hq => List.mem_cons_of_mem _ (List.mem_cons_of_mem _ hq)) Ov) 0 18 175 412 ?_
                          rintro _ h218 ⟨ka220, va221, ha222, kk223, kv224, kh225, n226, K227, H228, V229, z230, rfl, H219, hq231, hq232, hq233, hq234⟩
                          show Own.W l Z _ K _ h218 18 175 412 #[.val (.int u0), .val (.int u1), .val (.int u2), .val (.long u3), .second, .val (.int u4), .val (.int u5), .val (.ref a1), .val (.ref a24), .val (.int nn), .val (.int (((u5.toUInt32 >>> ((14 : Int32) &&& 31).toUInt32).toInt32) &&& (15 : Int32))), .val (.int xx), .val (.ref a174), .unset, .unset, .unset, .unset, .unset] []
                          refine Own.W.more (cc' := 18) (ss' := 175) (Nat.le_refl _) (Nat.le_refl _) ?_
                          exact J9 _ ka220 va221 ha222 kk223 kv224 kh225 n226 K227 H228 V229 z230 H219 (by rw [Mp_put hc213, ek8, ev8]; exact hq231) (Nat.le_trans hq232 (Nat.succ_le_succ hz)) hq233 hq234
                      refine Own.W.iload ok at_368 370 rfl ?_
                      refine Own.W.bipush ok at_370 372 (7 : Int32) rfl ?_
                      refine Own.W.icmp ok at_372 390 375 (fun (hc235 : ¬ ((7 : Int32) < nn)) => ?_) (fun (hc235 : (7 : Int32) < nn) => ?_)
                      · exact J8 _ ka va ha kk kv kh n Kf Hf Vf zz Hh (by rw [Mp_skip hc235]; exact TT) (Nat.le_succ_of_le hz) hV Ov
                      · refine Own.W.aload ok at_375 377 rfl rfl ?_
                        refine Own.W.aload ok at_377 379 rfl rfl ?_
                        refine Own.W.bipush ok at_379 381 (7 : Int32) rfl ?_
                        refine Own.W.iald ok Hh (i := 5) rfl (by decide) rfl at_381 382 ?_
                        refine Own.W.aload ok at_382 384 rfl rfl ?_
                        refine Own.W.bipush ok at_384 386 (7 : Int32) rfl ?_
                        refine Own.W.aald ok Hh (i := 4) rfl (by decide) rfl at_386 387 ?_
                        have H236 : Own.HS Z hh ((ha, .inr (.boolean, kh, (Own.tH n Hf))) :: (a174, o_IT (.ref ka) (.ref va) (.ref ha) (.int (zz.toInt32))) :: (ka, .inr (.int, kk, (Own.tK n Kf))) :: (va, .inr ((.object "java/lang/Object"), kv, (Own.tab n Vf))) :: (a24, .inr ((.object "java/lang/Integer"), k25, [u35, u47, u60, u74, u89, u105, u122, u140, u159])) :: (a1, .inr (.int, k2, [(.int u0), (.int kb), (.int u2), (.int (u3.toInt32)), (.int (((u3.toUInt64 >>> ((32 : Int32) &&& 0x3f).toInt64.toUInt64).toInt64).toInt32)), (.int (u0 + (1 : Int32))), (.int (u1 + (1 : Int32))), (.int (u2 + (1 : Int32))), (.int u4)])) :: tl160) := Hh.pull 3 _ rfl rfl
                        have H237 : Own.HS Z hh ((va, .inr ((.object "java/lang/Object"), kv, (Own.tab n Vf))) :: (ha, .inr (.boolean, kh, (Own.tH n Hf))) :: (a174, o_IT (.ref ka) (.ref va) (.ref ha) (.int (zz.toInt32))) :: (ka, .inr (.int, kk, (Own.tK n Kf))) :: (a24, .inr ((.object "java/lang/Integer"), k25, [u35, u47, u60, u74, u89, u105, u122, u140, u159])) :: (a1, .inr (.int, k2, [(.int u0), (.int kb), (.int u2), (.int (u3.toInt32)), (.int (((u3.toUInt64 >>> ((32 : Int32) &&& 0x3f).toInt64.toUInt64).toInt64).toInt32)), (.int (u0 + (1 : Int32))), (.int (u1 + (1 : Int32))), (.int (u2 + (1 : Int32))), (.int u4)])) :: tl160) := H236.pull 3 _ rfl rfl
                        have H238 : Own.HS Z hh ((ka, .inr (.int, kk, (Own.tK n Kf))) :: (va, .inr ((.object "java/lang/Object"), kv, (Own.tab n Vf))) :: (ha, .inr (.boolean, kh, (Own.tH n Hf))) :: (a174, o_IT (.ref ka) (.ref va) (.ref ha) (.int (zz.toInt32))) :: (a24, .inr ((.object "java/lang/Integer"), k25, [u35, u47, u60, u74, u89, u105, u122, u140, u159])) :: (a1, .inr (.int, k2, [(.int u0), (.int kb), (.int u2), (.int (u3.toInt32)), (.int (((u3.toUInt64 >>> ((32 : Int32) &&& 0x3f).toInt64.toUInt64).toInt64).toInt32)), (.int (u0 + (1 : Int32))), (.int (u1 + (1 : Int32))), (.int (u2 + (1 : Int32))), (.int u4)])) :: tl160) := H237.pull 3 _ rfl rfl
                        have H239 : Own.HS Z hh ((a174, o_IT (.ref ka) (.ref va) (.ref ha) (.int (zz.toInt32))) :: (ka, .inr (.int, kk, (Own.tK n Kf))) :: (va, .inr ((.object "java/lang/Object"), kv, (Own.tab n Vf))) :: (ha, .inr (.boolean, kh, (Own.tH n Hf))) :: (a24, .inr ((.object "java/lang/Integer"), k25, [u35, u47, u60, u74, u89, u105, u122, u140, u159])) :: (a1, .inr (.int, k2, [(.int u0), (.int kb), (.int u2), (.int (u3.toInt32)), (.int (((u3.toUInt64 >>> ((32 : Int32) &&& 0x3f).toInt64.toUInt64).toInt64).toInt32)), (.int (u0 + (1 : Int32))), (.int (u1 + (1 : Int32))), (.int (u2 + (1 : Int32))), (.int u4)])) :: tl160) := H238.pull 3 _ rfl rfl
                        refine Own.W.callV ok tb (a := a174) (argsL := [(.int (u2 + (1 : Int32))), u140]) (rest := []) 47 48 50 49 51 33 rfl rfl rfl rfl rfl rfl (notFace_of_selects (args := #[]) (mvT ok.2.1 (tb _ (List.mem_of_getElem? (i := 50) rfl)))) (H239.exa (i := 0) rfl) at_387 pd_9 (c_putA l tb a174 ka va ha kk kv kh n Kf Hf Vf zz (u2 + (1 : Int32)) u140 (Own.Mp nn ksf vsf 7) tl160 hh ((a24, .inr ((.object "java/lang/Integer"), k25, [u35, u47, u60, u74, u89, u105, u122, u140, u159])) :: (a1, .inr (.int, k2, [(.int u0), (.int kb), (.int u2), (.int (u3.toInt32)), (.int (((u3.toUInt64 >>> ((32 : Int32) &&& 0x3f).toInt64.toUInt64).toInt64).toInt32)), (.int (u0 + (1 : Int32))), (.int (u1 + (1 : Int32))), (.int (u2 + (1 : Int32))), (.int u4)])) :: tl160) H239 TT (Nat.le_trans hz (by decide)) hv170 hV (fun q hq => List.mem_cons_of_mem _ (List.mem_cons_of_mem _ hq)) Ov) 0 15 79 390 ?_
                        rintro _ h240 ⟨ka242, va243, ha244, kk245, kv246, kh247, n248, K249, H250, V251, z252, rfl, H241, hq253, hq254, hq255, hq256⟩
                        show Own.W l Z _ K _ h240 15 79 390 #[.val (.int u0), .val (.int u1), .val (.int u2), .val (.long u3), .second, .val (.int u4), .val (.int u5), .val (.ref a1), .val (.ref a24), .val (.int nn), .val (.int (((u5.toUInt32 >>> ((14 : Int32) &&& 31).toUInt32).toInt32) &&& (15 : Int32))), .val (.int xx), .val (.ref a174), .unset, .unset, .unset, .unset, .unset] []
                        exact J8 _ ka242 va243 ha244 kk245 kv246 kh247 n248 K249 H250 V251 z252 H241 (by rw [Mp_put hc235, ek7, ev7]; exact hq253) (Nat.le_trans hq254 (Nat.succ_le_succ hz)) hq255 hq256
                    refine Own.W.iload ok at_346 348 rfl ?_
                    refine Own.W.bipush ok at_348 350 (6 : Int32) rfl ?_
                    refine Own.W.icmp ok at_350 368 353 (fun (hc257 : ¬ ((6 : Int32) < nn)) => ?_) (fun (hc257 : (6 : Int32) < nn) => ?_)
                    · exact J7 _ ka va ha kk kv kh n Kf Hf Vf zz Hh (by rw [Mp_skip hc257]; exact TT) (Nat.le_succ_of_le hz) hV Ov
                    · refine Own.W.aload ok at_353 355 rfl rfl ?_
                      refine Own.W.aload ok at_355 357 rfl rfl ?_
                      refine Own.W.bipush ok at_357 359 (6 : Int32) rfl ?_
                      refine Own.W.iald ok Hh (i := 5) rfl (by decide) rfl at_359 360 ?_
                      refine Own.W.aload ok at_360 362 rfl rfl ?_
                      refine Own.W.bipush ok at_362 364 (6 : Int32) rfl ?_
                      refine Own.W.aald ok Hh (i := 4) rfl (by decide) rfl at_364 365 ?_
                      have H258 : Own.HS Z hh ((ha, .inr (.boolean, kh, (Own.tH n Hf))) :: (a174, o_IT (.ref ka) (.ref va) (.ref ha) (.int (zz.toInt32))) :: (ka, .inr (.int, kk, (Own.tK n Kf))) :: (va, .inr ((.object "java/lang/Object"), kv, (Own.tab n Vf))) :: (a24, .inr ((.object "java/lang/Integer"), k25, [u35, u47, u60, u74, u89, u105, u122, u140, u159])) :: (a1, .inr (.int, k2, [(.int u0), (.int kb), (.int u2), (.int (u3.toInt32)), (.int (((u3.toUInt64 >>> ((32 : Int32) &&& 0x3f).toInt64.toUInt64).toInt64).toInt32)), (.int (u0 + (1 : Int32))), (.int (u1 + (1 : Int32))), (.int (u2 + (1 : Int32))), (.int u4)])) :: tl160) := Hh.pull 3 _ rfl rfl
                      have H259 : Own.HS Z hh ((va, .inr ((.object "java/lang/Object"), kv, (Own.tab n Vf))) :: (ha, .inr (.boolean, kh, (Own.tH n Hf))) :: (a174, o_IT (.ref ka) (.ref va) (.ref ha) (.int (zz.toInt32))) :: (ka, .inr (.int, kk, (Own.tK n Kf))) :: (a24, .inr ((.object "java/lang/Integer"), k25, [u35, u47, u60, u74, u89, u105, u122, u140, u159])) :: (a1, .inr (.int, k2, [(.int u0), (.int kb), (.int u2), (.int (u3.toInt32)), (.int (((u3.toUInt64 >>> ((32 : Int32) &&& 0x3f).toInt64.toUInt64).toInt64).toInt32)), (.int (u0 + (1 : Int32))), (.int (u1 + (1 : Int32))), (.int (u2 + (1 : Int32))), (.int u4)])) :: tl160) := H258.pull 3 _ rfl rfl
                      have H260 : Own.HS Z hh ((ka, .inr (.int, kk, (Own.tK n Kf))) :: (va, .inr ((.object "java/lang/Object"), kv, (Own.tab n Vf))) :: (ha, .inr (.boolean, kh, (Own.tH n Hf))) :: (a174, o_IT (.ref ka) (.ref va) (.ref ha) (.int (zz.toInt32))) :: (a24, .inr ((.object "java/lang/Integer"), k25, [u35, u47, u60, u74, u89, u105, u122, u140, u159])) :: (a1, .inr (.int, k2, [(.int u0), (.int kb), (.int u2), (.int (u3.toInt32)), (.int (((u3.toUInt64 >>> ((32 : Int32) &&& 0x3f).toInt64.toUInt64).toInt64).toInt32)), (.int (u0 + (1 : Int32))), (.int (u1 + (1 : Int32))), (.int (u2 + (1 : Int32))), (.int u4)])) :: tl160) := H259.pull 3 _ rfl rfl
                      have H261 : Own.HS Z hh ((a174, o_IT (.ref ka) (.ref va) (.ref ha) (.int (zz.toInt32))) :: (ka, .inr (.int, kk, (Own.tK n Kf))) :: (va, .inr ((.object "java/lang/Object"), kv, (Own.tab n Vf))) :: (ha, .inr (.boolean, kh, (Own.tH n Hf))) :: (a24, .inr ((.object "java/lang/Integer"), k25, [u35, u47, u60, u74, u89, u105, u122, u140, u159])) :: (a1, .inr (.int, k2, [(.int u0), (.int kb), (.int u2), (.int (u3.toInt32)), (.int (((u3.toUInt64 >>> ((32 : Int32) &&& 0x3f).toInt64.toUInt64).toInt64).toInt32)), (.int (u0 + (1 : Int32))), (.int (u1 + (1 : Int32))), (.int (u2 + (1 : Int32))), (.int u4)])) :: tl160) := H260.pull 3 _ rfl rfl
                      refine Own.W.callV ok tb (a := a174) (argsL := [(.int (u1 + (1 : Int32))), u122]) (rest := []) 47 48 50 49 51 33 rfl rfl rfl rfl rfl rfl (notFace_of_selects (args := #[]) (mvT ok.2.1 (tb _ (List.mem_of_getElem? (i := 50) rfl)))) (H261.exa (i := 0) rfl) at_365 pd_9 (c_putA l tb a174 ka va ha kk kv kh n Kf Hf Vf zz (u1 + (1 : Int32)) u122 (Own.Mp nn ksf vsf 6) tl160 hh ((a24, .inr ((.object "java/lang/Integer"), k25, [u35, u47, u60, u74, u89, u105, u122, u140, u159])) :: (a1, .inr (.int, k2, [(.int u0), (.int kb), (.int u2), (.int (u3.toInt32)), (.int (((u3.toUInt64 >>> ((32 : Int32) &&& 0x3f).toInt64.toUInt64).toInt64).toInt32)), (.int (u0 + (1 : Int32))), (.int (u1 + (1 : Int32))), (.int (u2 + (1 : Int32))), (.int u4)])) :: tl160) H261 TT (Nat.le_trans hz (by decide)) hv169 hV (fun q hq => List.mem_cons_of_mem _ (List.mem_cons_of_mem _ hq)) Ov) 0 15 79 368 ?_
                      rintro _ h262 ⟨ka264, va265, ha266, kk267, kv268, kh269, n270, K271, H272, V273, z274, rfl, H263, hq275, hq276, hq277, hq278⟩
                      show Own.W l Z _ K _ h262 15 79 368 #[.val (.int u0), .val (.int u1), .val (.int u2), .val (.long u3), .second, .val (.int u4), .val (.int u5), .val (.ref a1), .val (.ref a24), .val (.int nn), .val (.int (((u5.toUInt32 >>> ((14 : Int32) &&& 31).toUInt32).toInt32) &&& (15 : Int32))), .val (.int xx), .val (.ref a174), .unset, .unset, .unset, .unset, .unset] []
                      exact J7 _ ka264 va265 ha266 kk267 kv268 kh269 n270 K271 H272 V273 z274 H263 (by rw [Mp_put hc257, ek6, ev6]; exact hq275) (Nat.le_trans hq276 (Nat.succ_le_succ hz)) hq277 hq278
                  refine Own.W.iload ok at_327 329 rfl ?_
                  refine Own.W.iconst ok at_329 330 (5 : Int32) rfl ?_
                  refine Own.W.icmp ok at_330 346 333 (fun (hc279 : ¬ ((5 : Int32) < nn)) => ?_) (fun (hc279 : (5 : Int32) < nn) => ?_)
                  · exact J6 _ ka va ha kk kv kh n Kf Hf Vf zz Hh (by rw [Mp_skip hc279]; exact TT) (Nat.le_succ_of_le hz) hV Ov
                  · refine Own.W.aload ok at_333 335 rfl rfl ?_
                    refine Own.W.aload ok at_335 337 rfl rfl ?_
                    refine Own.W.iconst ok at_337 338 (5 : Int32) rfl ?_
                    refine Own.W.iald ok Hh (i := 5) rfl (by decide) rfl at_338 339 ?_
                    refine Own.W.aload ok at_339 341 rfl rfl ?_
                    refine Own.W.iconst ok at_341 342 (5 : Int32) rfl ?_
                    refine Own.W.aald ok Hh (i := 4) rfl (by decide) rfl at_342 343 ?_
                    have H280 : Own.HS Z hh ((ha, .inr (.boolean, kh, (Own.tH n Hf))) :: (a174, o_IT (.ref ka) (.ref va) (.ref ha) (.int (zz.toInt32))) :: (ka, .inr (.int, kk, (Own.tK n Kf))) :: (va, .inr ((.object "java/lang/Object"), kv, (Own.tab n Vf))) :: (a24, .inr ((.object "java/lang/Integer"), k25, [u35, u47, u60, u74, u89, u105, u122, u140, u159])) :: (a1, .inr (.int, k2, [(.int u0), (.int kb), (.int u2), (.int (u3.toInt32)), (.int (((u3.toUInt64 >>> ((32 : Int32) &&& 0x3f).toInt64.toUInt64).toInt64).toInt32)), (.int (u0 + (1 : Int32))), (.int (u1 + (1 : Int32))), (.int (u2 + (1 : Int32))), (.int u4)])) :: tl160) := Hh.pull 3 _ rfl rfl
                    have H281 : Own.HS Z hh ((va, .inr ((.object "java/lang/Object"), kv, (Own.tab n Vf))) :: (ha, .inr (.boolean, kh, (Own.tH n Hf))) :: (a174, o_IT (.ref ka) (.ref va) (.ref ha) (.int (zz.toInt32))) :: (ka, .inr (.int, kk, (Own.tK n Kf))) :: (a24, .inr ((.object "java/lang/Integer"), k25, [u35, u47, u60, u74, u89, u105, u122, u140, u159])) :: (a1, .inr (.int, k2, [(.int u0), (.int kb), (.int u2), (.int (u3.toInt32)), (.int (((u3.toUInt64 >>> ((32 : Int32) &&& 0x3f).toInt64.toUInt64).toInt64).toInt32)), (.int (u0 + (1 : Int32))), (.int (u1 + (1 : Int32))), (.int (u2 + (1 : Int32))), (.int u4)])) :: tl160) := H280.pull 3 _ rfl rfl
                    have H282 : Own.HS Z hh ((ka, .inr (.int, kk, (Own.tK n Kf))) :: (va, .inr ((.object "java/lang/Object"), kv, (Own.tab n Vf))) :: (ha, .inr (.boolean, kh, (Own.tH n Hf))) :: (a174, o_IT (.ref ka) (.ref va) (.ref ha) (.int (zz.toInt32))) :: (a24, .inr ((.object "java/lang/Integer"), k25, [u35, u47, u60, u74, u89, u105, u122, u140, u159])) :: (a1, .inr (.int, k2, [(.int u0), (.int kb), (.int u2), (.int (u3.toInt32)), (.int (((u3.toUInt64 >>> ((32 : Int32) &&& 0x3f).toInt64.toUInt64).toInt64).toInt32)), (.int (u0 + (1 : Int32))), (.int (u1 + (1 : Int32))), (.int (u2 + (1 : Int32))), (.int u4)])) :: tl160) := H281.pull 3 _ rfl rfl
                    have H283 : Own.HS Z hh ((a174, o_IT (.ref ka) (.ref va) (.ref ha) (.int (zz.toInt32))) :: (ka, .inr (.int, kk, (Own.tK n Kf))) :: (va, .inr ((.object "java/lang/Object"), kv, (Own.tab n Vf))) :: (ha, .inr (.boolean, kh, (Own.tH n Hf))) :: (a24, .inr ((.object "java/lang/Integer"), k25, [u35, u47, u60, u74, u89, u105, u122, u140, u159])) :: (a1, .inr (.int, k2, [(.int u0), (.int kb), (.int u2), (.int (u3.toInt32)), (.int (((u3.toUInt64 >>> ((32 : Int32) &&& 0x3f).toInt64.toUInt64).toInt64).toInt32)), (.int (u0 + (1 : Int32))), (.int (u1 + (1 : Int32))), (.int (u2 + (1 : Int32))), (.int u4)])) :: tl160) := H282.pull 3 _ rfl rfl
                    refine Own.W.callV ok tb (a := a174) (argsL := [(.int (u0 + (1 : Int32))), u105]) (rest := []) 47 48 50 49 51 33 rfl rfl rfl rfl rfl rfl (notFace_of_selects (args := #[]) (mvT ok.2.1 (tb _ (List.mem_of_getElem? (i := 50) rfl)))) (H283.exa (i := 0) rfl) at_343 pd_9 (c_putA l tb a174 ka va ha kk kv kh n Kf Hf Vf zz (u0 + (1 : Int32)) u105 (Own.Mp nn ksf vsf 5) tl160 hh ((a24, .inr ((.object "java/lang/Integer"), k25, [u35, u47, u60, u74, u89, u105, u122, u140, u159])) :: (a1, .inr (.int, k2, [(.int u0), (.int kb), (.int u2), (.int (u3.toInt32)), (.int (((u3.toUInt64 >>> ((32 : Int32) &&& 0x3f).toInt64.toUInt64).toInt64).toInt32)), (.int (u0 + (1 : Int32))), (.int (u1 + (1 : Int32))), (.int (u2 + (1 : Int32))), (.int u4)])) :: tl160) H283 TT (Nat.le_trans hz (by decide)) hv168 hV (fun q hq => List.mem_cons_of_mem _ (List.mem_cons_of_mem _ hq)) Ov) 0 15 79 346 ?_
                    rintro _ h284 ⟨ka286, va287, ha288, kk289, kv290, kh291, n292, K293, H294, V295, z296, rfl, H285, hq297, hq298, hq299, hq300⟩
                    show Own.W l Z _ K _ h284 15 79 346 #[.val (.int u0), .val (.int u1), .val (.int u2), .val (.long u3), .second, .val (.int u4), .val (.int u5), .val (.ref a1), .val (.ref a24), .val (.int nn), .val (.int (((u5.toUInt32 >>> ((14 : Int32) &&& 31).toUInt32).toInt32) &&& (15 : Int32))), .val (.int xx), .val (.ref a174), .unset, .unset, .unset, .unset, .unset] []
                    exact J6 _ ka286 va287 ha288 kk289 kv290 kh291 n292 K293 H294 V295 z296 H285 (by rw [Mp_put hc279, ek5, ev5]; exact hq297) (Nat.le_trans hq298 (Nat.succ_le_succ hz)) hq299 hq300
                refine Own.W.iload ok at_308 310 rfl ?_
                refine Own.W.iconst ok at_310 311 (4 : Int32) rfl ?_
                refine Own.W.icmp ok at_311 327 314 (fun (hc301 : ¬ ((4 : Int32) < nn)) => ?_) (fun (hc301 : (4 : Int32) < nn) => ?_)
                · exact J5 _ ka va ha kk kv kh n Kf Hf Vf zz Hh (by rw [Mp_skip hc301]; exact TT) (Nat.le_succ_of_le hz) hV Ov
                · refine Own.W.aload ok at_314 316 rfl rfl ?_
                  refine Own.W.aload ok at_316 318 rfl rfl ?_
                  refine Own.W.iconst ok at_318 319 (4 : Int32) rfl ?_
                  refine Own.W.iald ok Hh (i := 5) rfl (by decide) rfl at_319 320 ?_
                  refine Own.W.aload ok at_320 322 rfl rfl ?_
                  refine Own.W.iconst ok at_322 323 (4 : Int32) rfl ?_
                  refine Own.W.aald ok Hh (i := 4) rfl (by decide) rfl at_323 324 ?_
                  have H302 : Own.HS Z hh ((ha, .inr (.boolean, kh, (Own.tH n Hf))) :: (a174, o_IT (.ref ka) (.ref va) (.ref ha) (.int (zz.toInt32))) :: (ka, .inr (.int, kk, (Own.tK n Kf))) :: (va, .inr ((.object "java/lang/Object"), kv, (Own.tab n Vf))) :: (a24, .inr ((.object "java/lang/Integer"), k25, [u35, u47, u60, u74, u89, u105, u122, u140, u159])) :: (a1, .inr (.int, k2, [(.int u0), (.int kb), (.int u2), (.int (u3.toInt32)), (.int (((u3.toUInt64 >>> ((32 : Int32) &&& 0x3f).toInt64.toUInt64).toInt64).toInt32)), (.int (u0 + (1 : Int32))), (.int (u1 + (1 : Int32))), (.int (u2 + (1 : Int32))), (.int u4)])) :: tl160) := Hh.pull 3 _ rfl rfl
                  have H303 : Own.HS Z hh ((va, .inr ((.object "java/lang/Object"), kv, (Own.tab n Vf))) :: (ha, .inr (.boolean, kh, (Own.tH n Hf))) :: (a174, o_IT (.ref ka) (.ref va) (.ref ha) (.int (zz.toInt32))) :: (ka, .inr (.int, kk, (Own.tK n Kf))) :: (a24, .inr ((.object "java/lang/Integer"), k25, [u35, u47, u60, u74, u89, u105, u122, u140, u159])) :: (a1, .inr (.int, k2, [(.int u0), (.int kb), (.int u2), (.int (u3.toInt32)), (.int (((u3.toUInt64 >>> ((32 : Int32) &&& 0x3f).toInt64.toUInt64).toInt64).toInt32)), (.int (u0 + (1 : Int32))), (.int (u1 + (1 : Int32))), (.int (u2 + (1 : Int32))), (.int u4)])) :: tl160) := H302.pull 3 _ rfl rfl
                  have H304 : Own.HS Z hh ((ka, .inr (.int, kk, (Own.tK n Kf))) :: (va, .inr ((.object "java/lang/Object"), kv, (Own.tab n Vf))) :: (ha, .inr (.boolean, kh, (Own.tH n Hf))) :: (a174, o_IT (.ref ka) (.ref va) (.ref ha) (.int (zz.toInt32))) :: (a24, .inr ((.object "java/lang/Integer"), k25, [u35, u47, u60, u74, u89, u105, u122, u140, u159])) :: (a1, .inr (.int, k2, [(.int u0), (.int kb), (.int u2), (.int (u3.toInt32)), (.int (((u3.toUInt64 >>> ((32 : Int32) &&& 0x3f).toInt64.toUInt64).toInt64).toInt32)), (.int (u0 + (1 : Int32))), (.int (u1 + (1 : Int32))), (.int (u2 + (1 : Int32))), (.int u4)])) :: tl160) := H303.pull 3 _ rfl rfl
                  have H305 : Own.HS Z hh ((a174, o_IT (.ref ka) (.ref va) (.ref ha) (.int (zz.toInt32))) :: (ka, .inr (.int, kk, (Own.tK n Kf))) :: (va, .inr ((.object "java/lang/Object"), kv, (Own.tab n Vf))) :: (ha, .inr (.boolean, kh, (Own.tH n Hf))) :: (a24, .inr ((.object "java/lang/Integer"), k25, [u35, u47, u60, u74, u89, u105, u122, u140, u159])) :: (a1, .inr (.int, k2, [(.int u0), (.int kb), (.int u2), (.int (u3.toInt32)), (.int (((u3.toUInt64 >>> ((32 : Int32) &&& 0x3f).toInt64.toUInt64).toInt64).toInt32)), (.int (u0 + (1 : Int32))), (.int (u1 + (1 : Int32))), (.int (u2 + (1 : Int32))), (.int u4)])) :: tl160) := H304.pull 3 _ rfl rfl
                  refine Own.W.callV ok tb (a := a174) (argsL := [(.int (((u3.toUInt64 >>> ((32 : Int32) &&& 0x3f).toInt64.toUInt64).toInt64).toInt32)), u89]) (rest := []) 47 48 50 49 51 33 rfl rfl rfl rfl rfl rfl (notFace_of_selects (args := #[]) (mvT ok.2.1 (tb _ (List.mem_of_getElem? (i := 50) rfl)))) (H305.exa (i := 0) rfl) at_324 pd_9 (c_putA l tb a174 ka va ha kk kv kh n Kf Hf Vf zz (((u3.toUInt64 >>> ((32 : Int32) &&& 0x3f).toInt64.toUInt64).toInt64).toInt32) u89 (Own.Mp nn ksf vsf 4) tl160 hh ((a24, .inr ((.object "java/lang/Integer"), k25, [u35, u47, u60, u74, u89, u105, u122, u140, u159])) :: (a1, .inr (.int, k2, [(.int u0), (.int kb), (.int u2), (.int (u3.toInt32)), (.int (((u3.toUInt64 >>> ((32 : Int32) &&& 0x3f).toInt64.toUInt64).toInt64).toInt32)), (.int (u0 + (1 : Int32))), (.int (u1 + (1 : Int32))), (.int (u2 + (1 : Int32))), (.int u4)])) :: tl160) H305 TT (Nat.le_trans hz (by decide)) hv167 hV (fun q hq => List.mem_cons_of_mem _ (List.mem_cons_of_mem _ hq)) Ov) 0 15 79 327 ?_
                  rintro _ h306 ⟨ka308, va309, ha310, kk311, kv312, kh313, n314, K315, H316, V317, z318, rfl, H307, hq319, hq320, hq321, hq322⟩
                  show Own.W l Z _ K _ h306 15 79 327 #[.val (.int u0), .val (.int u1), .val (.int u2), .val (.long u3), .second, .val (.int u4), .val (.int u5), .val (.ref a1), .val (.ref a24), .val (.int nn), .val (.int (((u5.toUInt32 >>> ((14 : Int32) &&& 31).toUInt32).toInt32) &&& (15 : Int32))), .val (.int xx), .val (.ref a174), .unset, .unset, .unset, .unset, .unset] []
                  exact J5 _ ka308 va309 ha310 kk311 kv312 kh313 n314 K315 H316 V317 z318 H307 (by rw [Mp_put hc301, ek4, ev4]; exact hq319) (Nat.le_trans hq320 (Nat.succ_le_succ hz)) hq321 hq322
              refine Own.W.iload ok at_289 291 rfl ?_
              refine Own.W.iconst ok at_291 292 (3 : Int32) rfl ?_
              refine Own.W.icmp ok at_292 308 295 (fun (hc323 : ¬ ((3 : Int32) < nn)) => ?_) (fun (hc323 : (3 : Int32) < nn) => ?_)
              · exact J4 _ ka va ha kk kv kh n Kf Hf Vf zz Hh (by rw [Mp_skip hc323]; exact TT) (Nat.le_succ_of_le hz) hV Ov
              · refine Own.W.aload ok at_295 297 rfl rfl ?_
                refine Own.W.aload ok at_297 299 rfl rfl ?_
                refine Own.W.iconst ok at_299 300 (3 : Int32) rfl ?_
                refine Own.W.iald ok Hh (i := 5) rfl (by decide) rfl at_300 301 ?_
                refine Own.W.aload ok at_301 303 rfl rfl ?_
                refine Own.W.iconst ok at_303 304 (3 : Int32) rfl ?_
                refine Own.W.aald ok Hh (i := 4) rfl (by decide) rfl at_304 305 ?_
                have H324 : Own.HS Z hh ((ha, .inr (.boolean, kh, (Own.tH n Hf))) :: (a174, o_IT (.ref ka) (.ref va) (.ref ha) (.int (zz.toInt32))) :: (ka, .inr (.int, kk, (Own.tK n Kf))) :: (va, .inr ((.object "java/lang/Object"), kv, (Own.tab n Vf))) :: (a24, .inr ((.object "java/lang/Integer"), k25, [u35, u47, u60, u74, u89, u105, u122, u140, u159])) :: (a1, .inr (.int, k2, [(.int u0), (.int kb), (.int u2), (.int (u3.toInt32)), (.int (((u3.toUInt64 >>> ((32 : Int32) &&& 0x3f).toInt64.toUInt64).toInt64).toInt32)), (.int (u0 + (1 : Int32))), (.int (u1 + (1 : Int32))), (.int (u2 + (1 : Int32))), (.int u4)])) :: tl160) := Hh.pull 3 _ rfl rfl
                have H325 : Own.HS Z hh ((va, .inr ((.object "java/lang/Object"), kv, (Own.tab n Vf))) :: (ha, .inr (.boolean, kh, (Own.tH n Hf))) :: (a174, o_IT (.ref ka) (.ref va) (.ref ha) (.int (zz.toInt32))) :: (ka, .inr (.int, kk, (Own.tK n Kf))) :: (a24, .inr ((.object "java/lang/Integer"), k25, [u35, u47, u60, u74, u89, u105, u122, u140, u159])) :: (a1, .inr (.int, k2, [(.int u0), (.int kb), (.int u2), (.int (u3.toInt32)), (.int (((u3.toUInt64 >>> ((32 : Int32) &&& 0x3f).toInt64.toUInt64).toInt64).toInt32)), (.int (u0 + (1 : Int32))), (.int (u1 + (1 : Int32))), (.int (u2 + (1 : Int32))), (.int u4)])) :: tl160) := H324.pull 3 _ rfl rfl
                have H326 : Own.HS Z hh ((ka, .inr (.int, kk, (Own.tK n Kf))) :: (va, .inr ((.object "java/lang/Object"), kv, (Own.tab n Vf))) :: (ha, .inr (.boolean, kh, (Own.tH n Hf))) :: (a174, o_IT (.ref ka) (.ref va) (.ref ha) (.int (zz.toInt32))) :: (a24, .inr ((.object "java/lang/Integer"), k25, [u35, u47, u60, u74, u89, u105, u122, u140, u159])) :: (a1, .inr (.int, k2, [(.int u0), (.int kb), (.int u2), (.int (u3.toInt32)), (.int (((u3.toUInt64 >>> ((32 : Int32) &&& 0x3f).toInt64.toUInt64).toInt64).toInt32)), (.int (u0 + (1 : Int32))), (.int (u1 + (1 : Int32))), (.int (u2 + (1 : Int32))), (.int u4)])) :: tl160) := H325.pull 3 _ rfl rfl
                have H327 : Own.HS Z hh ((a174, o_IT (.ref ka) (.ref va) (.ref ha) (.int (zz.toInt32))) :: (ka, .inr (.int, kk, (Own.tK n Kf))) :: (va, .inr ((.object "java/lang/Object"), kv, (Own.tab n Vf))) :: (ha, .inr (.boolean, kh, (Own.tH n Hf))) :: (a24, .inr ((.object "java/lang/Integer"), k25, [u35, u47, u60, u74, u89, u105, u122, u140, u159])) :: (a1, .inr (.int, k2, [(.int u0), (.int kb), (.int u2), (.int (u3.toInt32)), (.int (((u3.toUInt64 >>> ((32 : Int32) &&& 0x3f).toInt64.toUInt64).toInt64).toInt32)), (.int (u0 + (1 : Int32))), (.int (u1 + (1 : Int32))), (.int (u2 + (1 : Int32))), (.int u4)])) :: tl160) := H326.pull 3 _ rfl rfl
                refine Own.W.callV ok tb (a := a174) (argsL := [(.int (u3.toInt32)), u74]) (rest := []) 47 48 50 49 51 33 rfl rfl rfl rfl rfl rfl (notFace_of_selects (args := #[]) (mvT ok.2.1 (tb _ (List.mem_of_getElem? (i := 50) rfl)))) (H327.exa (i := 0) rfl) at_305 pd_9 (c_putA l tb a174 ka va ha kk kv kh n Kf Hf Vf zz (u3.toInt32) u74 (Own.Mp nn ksf vsf 3) tl160 hh ((a24, .inr ((.object "java/lang/Integer"), k25, [u35, u47, u60, u74, u89, u105, u122, u140, u159])) :: (a1, .inr (.int, k2, [(.int u0), (.int kb), (.int u2), (.int (u3.toInt32)), (.int (((u3.toUInt64 >>> ((32 : Int32) &&& 0x3f).toInt64.toUInt64).toInt64).toInt32)), (.int (u0 + (1 : Int32))), (.int (u1 + (1 : Int32))), (.int (u2 + (1 : Int32))), (.int u4)])) :: tl160) H327 TT (Nat.le_trans hz (by decide)) hv166 hV (fun q hq => List.mem_cons_of_mem _ (List.mem_cons_of_mem _ hq)) Ov) 0 15 79 308 ?_
                rintro _ h328 ⟨ka330, va331, ha332, kk333, kv334, kh335, n336, K337, H338, V339, z340, rfl, H329, hq341, hq342, hq343, hq344⟩
                show Own.W l Z _ K _ h328 15 79 308 #[.val (.int u0), .val (.int u1), .val (.int u2), .val (.long u3), .second, .val (.int u4), .val (.int u5), .val (.ref a1), .val (.ref a24), .val (.int nn), .val (.int (((u5.toUInt32 >>> ((14 : Int32) &&& 31).toUInt32).toInt32) &&& (15 : Int32))), .val (.int xx), .val (.ref a174), .unset, .unset, .unset, .unset, .unset] []
                exact J4 _ ka330 va331 ha332 kk333 kv334 kh335 n336 K337 H338 V339 z340 H329 (by rw [Mp_put hc323, ek3, ev3]; exact hq341) (Nat.le_trans hq342 (Nat.succ_le_succ hz)) hq343 hq344
            refine Own.W.iload ok at_270 272 rfl ?_
            refine Own.W.iconst ok at_272 273 (2 : Int32) rfl ?_
            refine Own.W.icmp ok at_273 289 276 (fun (hc345 : ¬ ((2 : Int32) < nn)) => ?_) (fun (hc345 : (2 : Int32) < nn) => ?_)
            · exact J3 _ ka va ha kk kv kh n Kf Hf Vf zz Hh (by rw [Mp_skip hc345]; exact TT) (Nat.le_succ_of_le hz) hV Ov
            · refine Own.W.aload ok at_276 278 rfl rfl ?_
              refine Own.W.aload ok at_278 280 rfl rfl ?_
              refine Own.W.iconst ok at_280 281 (2 : Int32) rfl ?_
              refine Own.W.iald ok Hh (i := 5) rfl (by decide) rfl at_281 282 ?_
              refine Own.W.aload ok at_282 284 rfl rfl ?_
              refine Own.W.iconst ok at_284 285 (2 : Int32) rfl ?_
              refine Own.W.aald ok Hh (i := 4) rfl (by decide) rfl at_285 286 ?_
              have H346 : Own.HS Z hh ((ha, .inr (.boolean, kh, (Own.tH n Hf))) :: (a174, o_IT (.ref ka) (.ref va) (.ref ha) (.int (zz.toInt32))) :: (ka, .inr (.int, kk, (Own.tK n Kf))) :: (va, .inr ((.object "java/lang/Object"), kv, (Own.tab n Vf))) :: (a24, .inr ((.object "java/lang/Integer"), k25, [u35, u47, u60, u74, u89, u105, u122, u140, u159])) :: (a1, .inr (.int, k2, [(.int u0), (.int kb), (.int u2), (.int (u3.toInt32)), (.int (((u3.toUInt64 >>> ((32 : Int32) &&& 0x3f).toInt64.toUInt64).toInt64).toInt32)), (.int (u0 + (1 : Int32))), (.int (u1 + (1 : Int32))), (.int (u2 + (1 : Int32))), (.int u4)])) :: tl160) := Hh.pull 3 _ rfl rfl
              have H347 : Own.HS Z hh ((va, .inr ((.object "java/lang/Object"), kv, (Own.tab n Vf))) :: (ha, .inr (.boolean, kh, (Own.tH n Hf))) :: (a174, o_IT (.ref ka) (.ref va) (.ref ha) (.int (zz.toInt32))) :: (ka, .inr (.int, kk, (Own.tK n Kf))) :: (a24, .inr ((.object "java/lang/Integer"), k25, [u35, u47, u60, u74, u89, u105, u122, u140, u159])) :: (a1, .inr (.int, k2, [(.int u0), (.int kb), (.int u2), (.int (u3.toInt32)), (.int (((u3.toUInt64 >>> ((32 : Int32) &&& 0x3f).toInt64.toUInt64).toInt64).toInt32)), (.int (u0 + (1 : Int32))), (.int (u1 + (1 : Int32))), (.int (u2 + (1 : Int32))), (.int u4)])) :: tl160) := H346.pull 3 _ rfl rfl
              have H348 : Own.HS Z hh ((ka, .inr (.int, kk, (Own.tK n Kf))) :: (va, .inr ((.object "java/lang/Object"), kv, (Own.tab n Vf))) :: (ha, .inr (.boolean, kh, (Own.tH n Hf))) :: (a174, o_IT (.ref ka) (.ref va) (.ref ha) (.int (zz.toInt32))) :: (a24, .inr ((.object "java/lang/Integer"), k25, [u35, u47, u60, u74, u89, u105, u122, u140, u159])) :: (a1, .inr (.int, k2, [(.int u0), (.int kb), (.int u2), (.int (u3.toInt32)), (.int (((u3.toUInt64 >>> ((32 : Int32) &&& 0x3f).toInt64.toUInt64).toInt64).toInt32)), (.int (u0 + (1 : Int32))), (.int (u1 + (1 : Int32))), (.int (u2 + (1 : Int32))), (.int u4)])) :: tl160) := H347.pull 3 _ rfl rfl
              have H349 : Own.HS Z hh ((a174, o_IT (.ref ka) (.ref va) (.ref ha) (.int (zz.toInt32))) :: (ka, .inr (.int, kk, (Own.tK n Kf))) :: (va, .inr ((.object "java/lang/Object"), kv, (Own.tab n Vf))) :: (ha, .inr (.boolean, kh, (Own.tH n Hf))) :: (a24, .inr ((.object "java/lang/Integer"), k25, [u35, u47, u60, u74, u89, u105, u122, u140, u159])) :: (a1, .inr (.int, k2, [(.int u0), (.int kb), (.int u2), (.int (u3.toInt32)), (.int (((u3.toUInt64 >>> ((32 : Int32) &&& 0x3f).toInt64.toUInt64).toInt64).toInt32)), (.int (u0 + (1 : Int32))), (.int (u1 + (1 : Int32))), (.int (u2 + (1 : Int32))), (.int u4)])) :: tl160) := H348.pull 3 _ rfl rfl
              refine Own.W.callV ok tb (a := a174) (argsL := [(.int u2), u60]) (rest := []) 47 48 50 49 51 33 rfl rfl rfl rfl rfl rfl (notFace_of_selects (args := #[]) (mvT ok.2.1 (tb _ (List.mem_of_getElem? (i := 50) rfl)))) (H349.exa (i := 0) rfl) at_286 pd_9 (c_putA l tb a174 ka va ha kk kv kh n Kf Hf Vf zz u2 u60 (Own.Mp nn ksf vsf 2) tl160 hh ((a24, .inr ((.object "java/lang/Integer"), k25, [u35, u47, u60, u74, u89, u105, u122, u140, u159])) :: (a1, .inr (.int, k2, [(.int u0), (.int kb), (.int u2), (.int (u3.toInt32)), (.int (((u3.toUInt64 >>> ((32 : Int32) &&& 0x3f).toInt64.toUInt64).toInt64).toInt32)), (.int (u0 + (1 : Int32))), (.int (u1 + (1 : Int32))), (.int (u2 + (1 : Int32))), (.int u4)])) :: tl160) H349 TT (Nat.le_trans hz (by decide)) hv165 hV (fun q hq => List.mem_cons_of_mem _ (List.mem_cons_of_mem _ hq)) Ov) 0 15 79 289 ?_
              rintro _ h350 ⟨ka352, va353, ha354, kk355, kv356, kh357, n358, K359, H360, V361, z362, rfl, H351, hq363, hq364, hq365, hq366⟩
              show Own.W l Z _ K _ h350 15 79 289 #[.val (.int u0), .val (.int u1), .val (.int u2), .val (.long u3), .second, .val (.int u4), .val (.int u5), .val (.ref a1), .val (.ref a24), .val (.int nn), .val (.int (((u5.toUInt32 >>> ((14 : Int32) &&& 31).toUInt32).toInt32) &&& (15 : Int32))), .val (.int xx), .val (.ref a174), .unset, .unset, .unset, .unset, .unset] []
              exact J3 _ ka352 va353 ha354 kk355 kv356 kh357 n358 K359 H360 V361 z362 H351 (by rw [Mp_put hc345, ek2, ev2]; exact hq363) (Nat.le_trans hq364 (Nat.succ_le_succ hz)) hq365 hq366
          refine Own.W.iload ok at_251 253 rfl ?_
          refine Own.W.iconst ok at_253 254 (1 : Int32) rfl ?_
          refine Own.W.icmp ok at_254 270 257 (fun (hc367 : ¬ ((1 : Int32) < nn)) => ?_) (fun (hc367 : (1 : Int32) < nn) => ?_)
          · exact J2 _ ka va ha kk kv kh n Kf Hf Vf zz Hh (by rw [Mp_skip hc367]; exact TT) (Nat.le_succ_of_le hz) hV Ov
          · refine Own.W.aload ok at_257 259 rfl rfl ?_
            refine Own.W.aload ok at_259 261 rfl rfl ?_
            refine Own.W.iconst ok at_261 262 (1 : Int32) rfl ?_
            refine Own.W.iald ok Hh (i := 5) rfl (by decide) rfl at_262 263 ?_
            refine Own.W.aload ok at_263 265 rfl rfl ?_
            refine Own.W.iconst ok at_265 266 (1 : Int32) rfl ?_
            refine Own.W.aald ok Hh (i := 4) rfl (by decide) rfl at_266 267 ?_
            have H368 : Own.HS Z hh ((ha, .inr (.boolean, kh, (Own.tH n Hf))) :: (a174, o_IT (.ref ka) (.ref va) (.ref ha) (.int (zz.toInt32))) :: (ka, .inr (.int, kk, (Own.tK n Kf))) :: (va, .inr ((.object "java/lang/Object"), kv, (Own.tab n Vf))) :: (a24, .inr ((.object "java/lang/Integer"), k25, [u35, u47, u60, u74, u89, u105, u122, u140, u159])) :: (a1, .inr (.int, k2, [(.int u0), (.int kb), (.int u2), (.int (u3.toInt32)), (.int (((u3.toUInt64 >>> ((32 : Int32) &&& 0x3f).toInt64.toUInt64).toInt64).toInt32)), (.int (u0 + (1 : Int32))), (.int (u1 + (1 : Int32))), (.int (u2 + (1 : Int32))), (.int u4)])) :: tl160) := Hh.pull 3 _ rfl rfl
            have H369 : Own.HS Z hh ((va, .inr ((.object "java/lang/Object"), kv, (Own.tab n Vf))) :: (ha, .inr (.boolean, kh, (Own.tH n Hf))) :: (a174, o_IT (.ref ka) (.ref va) (.ref ha) (.int (zz.toInt32))) :: (ka, .inr (.int, kk, (Own.tK n Kf))) :: (a24, .inr ((.object "java/lang/Integer"), k25, [u35, u47, u60, u74, u89, u105, u122, u140, u159])) :: (a1, .inr (.int, k2, [(.int u0), (.int kb), (.int u2), (.int (u3.toInt32)), (.int (((u3.toUInt64 >>> ((32 : Int32) &&& 0x3f).toInt64.toUInt64).toInt64).toInt32)), (.int (u0 + (1 : Int32))), (.int (u1 + (1 : Int32))), (.int (u2 + (1 : Int32))), (.int u4)])) :: tl160) := H368.pull 3 _ rfl rfl
            have H370 : Own.HS Z hh ((ka, .inr (.int, kk, (Own.tK n Kf))) :: (va, .inr ((.object "java/lang/Object"), kv, (Own.tab n Vf))) :: (ha, .inr (.boolean, kh, (Own.tH n Hf))) :: (a174, o_IT (.ref ka) (.ref va) (.ref ha) (.int (zz.toInt32))) :: (a24, .inr ((.object "java/lang/Integer"), k25, [u35, u47, u60, u74, u89, u105, u122, u140, u159])) :: (a1, .inr (.int, k2, [(.int u0), (.int kb), (.int u2), (.int (u3.toInt32)), (.int (((u3.toUInt64 >>> ((32 : Int32) &&& 0x3f).toInt64.toUInt64).toInt64).toInt32)), (.int (u0 + (1 : Int32))), (.int (u1 + (1 : Int32))), (.int (u2 + (1 : Int32))), (.int u4)])) :: tl160) := H369.pull 3 _ rfl rfl
            have H371 : Own.HS Z hh ((a174, o_IT (.ref ka) (.ref va) (.ref ha) (.int (zz.toInt32))) :: (ka, .inr (.int, kk, (Own.tK n Kf))) :: (va, .inr ((.object "java/lang/Object"), kv, (Own.tab n Vf))) :: (ha, .inr (.boolean, kh, (Own.tH n Hf))) :: (a24, .inr ((.object "java/lang/Integer"), k25, [u35, u47, u60, u74, u89, u105, u122, u140, u159])) :: (a1, .inr (.int, k2, [(.int u0), (.int kb), (.int u2), (.int (u3.toInt32)), (.int (((u3.toUInt64 >>> ((32 : Int32) &&& 0x3f).toInt64.toUInt64).toInt64).toInt32)), (.int (u0 + (1 : Int32))), (.int (u1 + (1 : Int32))), (.int (u2 + (1 : Int32))), (.int u4)])) :: tl160) := H370.pull 3 _ rfl rfl
            refine Own.W.callV ok tb (a := a174) (argsL := [(.int kb), u47]) (rest := []) 47 48 50 49 51 33 rfl rfl rfl rfl rfl rfl (notFace_of_selects (args := #[]) (mvT ok.2.1 (tb _ (List.mem_of_getElem? (i := 50) rfl)))) (H371.exa (i := 0) rfl) at_267 pd_9 (c_putA l tb a174 ka va ha kk kv kh n Kf Hf Vf zz kb u47 (Own.Mp nn ksf vsf 1) tl160 hh ((a24, .inr ((.object "java/lang/Integer"), k25, [u35, u47, u60, u74, u89, u105, u122, u140, u159])) :: (a1, .inr (.int, k2, [(.int u0), (.int kb), (.int u2), (.int (u3.toInt32)), (.int (((u3.toUInt64 >>> ((32 : Int32) &&& 0x3f).toInt64.toUInt64).toInt64).toInt32)), (.int (u0 + (1 : Int32))), (.int (u1 + (1 : Int32))), (.int (u2 + (1 : Int32))), (.int u4)])) :: tl160) H371 TT (Nat.le_trans hz (by decide)) hv164 hV (fun q hq => List.mem_cons_of_mem _ (List.mem_cons_of_mem _ hq)) Ov) 0 15 79 270 ?_
            rintro _ h372 ⟨ka374, va375, ha376, kk377, kv378, kh379, n380, K381, H382, V383, z384, rfl, H373, hq385, hq386, hq387, hq388⟩
            show Own.W l Z _ K _ h372 15 79 270 #[.val (.int u0), .val (.int u1), .val (.int u2), .val (.long u3), .second, .val (.int u4), .val (.int u5), .val (.ref a1), .val (.ref a24), .val (.int nn), .val (.int (((u5.toUInt32 >>> ((14 : Int32) &&& 31).toUInt32).toInt32) &&& (15 : Int32))), .val (.int xx), .val (.ref a174), .unset, .unset, .unset, .unset, .unset] []
            exact J2 _ ka374 va375 ha376 kk377 kv378 kh379 n380 K381 H382 V383 z384 H373 (by rw [Mp_put hc367, ek1, ev1]; exact hq385) (Nat.le_trans hq386 (Nat.succ_le_succ hz)) hq387 hq388
        refine Own.W.iload ok at_233 235 rfl ?_
        refine Own.W.iff ok at_235 251 238 (fun (hc389 : ¬ ((0 : Int32) < nn)) => ?_) (fun (hc389 : (0 : Int32) < nn) => ?_)
        · exact J1 _ ka va ha kk kv kh n Kf Hf Vf zz Hh (by rw [Mp_skip hc389]; exact TT) (Nat.le_succ_of_le hz) hV Ov
        · refine Own.W.aload ok at_238 240 rfl rfl ?_
          refine Own.W.aload ok at_240 242 rfl rfl ?_
          refine Own.W.iconst ok at_242 243 (0 : Int32) rfl ?_
          refine Own.W.iald ok Hh (i := 5) rfl (by decide) rfl at_243 244 ?_
          refine Own.W.aload ok at_244 246 rfl rfl ?_
          refine Own.W.iconst ok at_246 247 (0 : Int32) rfl ?_
          refine Own.W.aald ok Hh (i := 4) rfl (by decide) rfl at_247 248 ?_
          have H390 : Own.HS Z hh ((ha, .inr (.boolean, kh, (Own.tH n Hf))) :: (a174, o_IT (.ref ka) (.ref va) (.ref ha) (.int (zz.toInt32))) :: (ka, .inr (.int, kk, (Own.tK n Kf))) :: (va, .inr ((.object "java/lang/Object"), kv, (Own.tab n Vf))) :: (a24, .inr ((.object "java/lang/Integer"), k25, [u35, u47, u60, u74, u89, u105, u122, u140, u159])) :: (a1, .inr (.int, k2, [(.int u0), (.int kb), (.int u2), (.int (u3.toInt32)), (.int (((u3.toUInt64 >>> ((32 : Int32) &&& 0x3f).toInt64.toUInt64).toInt64).toInt32)), (.int (u0 + (1 : Int32))), (.int (u1 + (1 : Int32))), (.int (u2 + (1 : Int32))), (.int u4)])) :: tl160) := Hh.pull 3 _ rfl rfl
          have H391 : Own.HS Z hh ((va, .inr ((.object "java/lang/Object"), kv, (Own.tab n Vf))) :: (ha, .inr (.boolean, kh, (Own.tH n Hf))) :: (a174, o_IT (.ref ka) (.ref va) (.ref ha) (.int (zz.toInt32))) :: (ka, .inr (.int, kk, (Own.tK n Kf))) :: (a24, .inr ((.object "java/lang/Integer"), k25, [u35, u47, u60, u74, u89, u105, u122, u140, u159])) :: (a1, .inr (.int, k2, [(.int u0), (.int kb), (.int u2), (.int (u3.toInt32)), (.int (((u3.toUInt64 >>> ((32 : Int32) &&& 0x3f).toInt64.toUInt64).toInt64).toInt32)), (.int (u0 + (1 : Int32))), (.int (u1 + (1 : Int32))), (.int (u2 + (1 : Int32))), (.int u4)])) :: tl160) := H390.pull 3 _ rfl rfl
          have H392 : Own.HS Z hh ((ka, .inr (.int, kk, (Own.tK n Kf))) :: (va, .inr ((.object "java/lang/Object"), kv, (Own.tab n Vf))) :: (ha, .inr (.boolean, kh, (Own.tH n Hf))) :: (a174, o_IT (.ref ka) (.ref va) (.ref ha) (.int (zz.toInt32))) :: (a24, .inr ((.object "java/lang/Integer"), k25, [u35, u47, u60, u74, u89, u105, u122, u140, u159])) :: (a1, .inr (.int, k2, [(.int u0), (.int kb), (.int u2), (.int (u3.toInt32)), (.int (((u3.toUInt64 >>> ((32 : Int32) &&& 0x3f).toInt64.toUInt64).toInt64).toInt32)), (.int (u0 + (1 : Int32))), (.int (u1 + (1 : Int32))), (.int (u2 + (1 : Int32))), (.int u4)])) :: tl160) := H391.pull 3 _ rfl rfl
          have H393 : Own.HS Z hh ((a174, o_IT (.ref ka) (.ref va) (.ref ha) (.int (zz.toInt32))) :: (ka, .inr (.int, kk, (Own.tK n Kf))) :: (va, .inr ((.object "java/lang/Object"), kv, (Own.tab n Vf))) :: (ha, .inr (.boolean, kh, (Own.tH n Hf))) :: (a24, .inr ((.object "java/lang/Integer"), k25, [u35, u47, u60, u74, u89, u105, u122, u140, u159])) :: (a1, .inr (.int, k2, [(.int u0), (.int kb), (.int u2), (.int (u3.toInt32)), (.int (((u3.toUInt64 >>> ((32 : Int32) &&& 0x3f).toInt64.toUInt64).toInt64).toInt32)), (.int (u0 + (1 : Int32))), (.int (u1 + (1 : Int32))), (.int (u2 + (1 : Int32))), (.int u4)])) :: tl160) := H392.pull 3 _ rfl rfl
          refine Own.W.callV ok tb (a := a174) (argsL := [(.int u0), u35]) (rest := []) 47 48 50 49 51 33 rfl rfl rfl rfl rfl rfl (notFace_of_selects (args := #[]) (mvT ok.2.1 (tb _ (List.mem_of_getElem? (i := 50) rfl)))) (H393.exa (i := 0) rfl) at_248 pd_9 (c_putA l tb a174 ka va ha kk kv kh n Kf Hf Vf zz u0 u35 (Own.Mp nn ksf vsf 0) tl160 hh ((a24, .inr ((.object "java/lang/Integer"), k25, [u35, u47, u60, u74, u89, u105, u122, u140, u159])) :: (a1, .inr (.int, k2, [(.int u0), (.int kb), (.int u2), (.int (u3.toInt32)), (.int (((u3.toUInt64 >>> ((32 : Int32) &&& 0x3f).toInt64.toUInt64).toInt64).toInt32)), (.int (u0 + (1 : Int32))), (.int (u1 + (1 : Int32))), (.int (u2 + (1 : Int32))), (.int u4)])) :: tl160) H393 TT (Nat.le_trans hz (by decide)) hv163 hV (fun q hq => List.mem_cons_of_mem _ (List.mem_cons_of_mem _ hq)) Ov) 0 15 79 251 ?_
          rintro _ h394 ⟨ka396, va397, ha398, kk399, kv400, kh401, n402, K403, H404, V405, z406, rfl, H395, hq407, hq408, hq409, hq410⟩
          show Own.W l Z _ K _ h394 15 79 251 #[.val (.int u0), .val (.int u1), .val (.int u2), .val (.long u3), .second, .val (.int u4), .val (.int u5), .val (.ref a1), .val (.ref a24), .val (.int nn), .val (.int (((u5.toUInt32 >>> ((14 : Int32) &&& 31).toUInt32).toInt32) &&& (15 : Int32))), .val (.int xx), .val (.ref a174), .unset, .unset, .unset, .unset, .unset] []
          exact J1 _ ka396 va397 ha398 kk399 kv400 kh401 n402 K403 H404 V405 z406 H395 (by rw [Mp_put hc389, ek0, ev0]; exact hq407) (Nat.le_trans hq408 (Nat.succ_le_succ hz)) hq409 hq410
      exact J0 _ ka179 va180 ha181 kk182 kv183 kh184 16 _ _ _ 0 H178 Own.TI.zero (Nat.le_refl _) (fun _ => Or.inl rfl) hq185
    refine Own.W.icmp ok at_207 218 210 (fun (hc411 : ¬ ((((u5.toUInt32 >>> ((14 : Int32) &&& 31).toUInt32).toInt32) &&& (15 : Int32)) < (9 : Int32))) => ?_) (fun (hc411 : (((u5.toUInt32 >>> ((14 : Int32) &&& 31).toUInt32).toInt32) &&& (15 : Int32)) < (9 : Int32)) => ?_)
    · refine Own.W.iload ok at_218 220 rfl ?_
      refine Own.W.iconst ok at_220 221 (1 : Int32) rfl ?_
      refine Own.W.iadd ok at_221 222 ?_
      exact J173 (u4 + (1 : Int32))
    · refine Own.W.aload ok at_210 212 rfl rfl ?_
      refine Own.W.iload ok at_212 214 rfl ?_
      obtain ⟨xv, hxv⟩ := int_at (L := [u0, kb, u2, (u3.toInt32), (((u3.toUInt64 >>> ((32 : Int32) &&& 0x3f).toInt64.toUInt64).toInt64).toInt32), (u0 + (1 : Int32)), (u1 + (1 : Int32)), (u2 + (1 : Int32)), u4]) (s_lt hc411)
      refine Own.W.iald ok H172 (i := 1) rfl (s_neg _) hxv at_214 215 ?_
      refine Own.W.goto ok at_215 222 ?_
      exact J173 xv
  refine Own.W.iff ok at_21 28 24 (fun (hc412 : (((u5.toUInt32 >>> ((13 : Int32) &&& 31).toUInt32).toInt32) &&& (1 : Int32)) = (0 : Int32)) => ?_) (fun (hc412 : ¬ ((((u5.toUInt32 >>> ((13 : Int32) &&& 31).toUInt32).toInt32) &&& (1 : Int32)) = (0 : Int32))) => ?_)
  · refine Own.W.iloadN ok at_28 29 rfl ?_
    exact J7 u1
  · refine Own.W.iloadN ok at_24 25 rfl ?_
    refine Own.W.goto ok at_25 29 ?_
    exact J7 u0
set_option maxRecDepth 65536 in
set_option maxHeartbeats 4000000 in
theorem comes_1 {Post : Tables → Env → Array Value → State → Outcome → State → Prop} (hpost : ∀ tb e args s v u, (limb_1_1.after args s (.returned v) u = true ∧ limb_1_2.after args s (.returned v) u = true ∧ True) → FrameEnd s (.returned v) u (Jvm.fieldLocs frame_1_writes args s ++ Jvm.arrayLocs frame_1_arrays args s ++ Jvm.staticLocs frame_1_statics s) 48 448 → Post tb e args s (.returned v) u) :
    ArmFor flags0 classFile x code maxLocals ret World_1 tables_1 room_1 Calls_1 rest_1 Pre_1 Post := by
  intro l hfl _ _ p e ha hc hk s m args below hf hA hF happ hP
  obtain ⟨hcalls, hrest, hpre⟩ := hP
  obtain ⟨-, -, -, hnamed, -, -, -, hat⟩ := (Spec.applies_iff hf).mp happ
  obtain ⟨hg, hn⟩ := and_e (Cond.before_iff.mp (show (Jvm.Cond.and given_1 narrow_1).before args s = true from hpre))
  obtain ⟨hg0, hr0⟩ := and_e hg
  obtain ⟨hg1, hr1⟩ := and_e hr0
  obtain ⟨hg2, hr2⟩ := and_e hr1
  obtain ⟨hg3, hr3⟩ := and_e hr2
  obtain ⟨hg4, hr4⟩ := and_e hr3
  obtain ⟨hg5, hr5⟩ := and_e hr4
  obtain ⟨w0, w1, w2, w3, w4, w5, rfl⟩ : ∃ w0 w1 w2 w3 w4 w5 : Value, args = #[w0, w1, w2, w3, w4, w5] := by
    have hs : args.size = 6 := by simpa [Cond.value, given_1] using hg0
    obtain ⟨L⟩ := args
    match L, hs with
    | [w0, w1, w2, w3, w4, w5], _ => exact ⟨w0, w1, w2, w3, w4, w5, rfl⟩
  have hw := fun d (hd : d ∈ tables_1) => atoms_spec (ws := Jvm.Cond.code x code maxLocals ret :: tables_1) hat d (List.mem_cons_of_mem _ hd)
  have hfit : Fit s := fun {y c} hc i hi => by
    obtain ⟨ha, rfl⟩ := Array.getElem?_eq_some_iff.mp hc
    have q := List.all_eq_true.mp ((Array.all_eq_true_iff_forall_mem.mp hF) _ (Array.getElem_mem ha)) i (List.mem_range.mpr hi)
    simpa [Array.getElem?_eq_getElem hi] using q
  obtain ⟨hsets, hown0⟩ := atoms_of _ (rest_1_c_eq ▸ (show rest_1_c.before _ s = true from hrest))
  obtain ⟨i0, ei0⟩ := is_v hg1
  obtain rfl : w0 = (.int i0) := Option.some.inj ei0
  obtain ⟨i1, ei1⟩ := is_v hg2
  obtain rfl : w1 = (.int i1) := Option.some.inj ei1
  obtain ⟨i2, ei2⟩ := is_v hg3
  obtain rfl : w2 = (.int i2) := Option.some.inj ei2
  obtain ⟨i3, ei3⟩ := isL_v hg4
  obtain rfl : w3 = (.long i3) := Option.some.inj ei3
  obtain ⟨i4, ei4⟩ := is_v hg5
  obtain rfl : w4 = (.int i4) := Option.some.inj ei4
  obtain ⟨i5, ei5⟩ := is_v hr5
  obtain rfl : w5 = (.int i5) := Option.some.inj ei5
  have SH := Own.st_int (Cond.before_iff.mp (hsets _ (List.mem_of_getElem? (i := 3) rfl))) (Or.inl (hsets _ (List.mem_of_getElem? (i := 1) rfl)))
  obtain ⟨n, o, h1, h2, h3, _, L, rfl, ⟨⟨rfl, -⟩, N⟩, hq⟩ := c_law l hw i0 i1 i2 i3 i4 i5 s.heap [] (Own.HS.nil s) SH tables_1 p e ha hc hk s m _ below hf ((Spec.applies_iff_loose hf).mp happ).1 ⟨rfl, State.Warmed39.refl s, rfl⟩ trivial
  refine ⟨n, _, h1, h2, h3, hpost _ _ _ _ _ _ ⟨Cond.after_iff.mpr rfl, Cond.after_iff.mpr (eq_i res_at (Term.int_eval (1)) rfl), trivial⟩ ⟨hq.1, hq.2.1, (hq.2.2.sift fun y hy => Or.inr (N y hy)).mono (by decide) (by decide)⟩⟩
theorem main_1_1 : Claimed_1_1 := comes_1 fun _ _ _ _ _ _ h hF => ⟨h.1, hF⟩
theorem main_1_2 : Claimed_1_2 := comes_1 fun _ _ _ _ _ _ h hF => ⟨h.2.1, hF⟩
end Jvm.Pilot.@@N@@
namespace Jvm.Pilot.@@N@@
open Jvm Jvm.ClassFile Sem Op Lib Jvm.Free Jvm.Stand Jvm.Pilot.@@N@@.Jvm.D
/-! MADE BY PROGRAM (witnessworld.py) out of the Statement's table words and the real class files: 19 classes; the members and pool entries that the words name. The judged class is class 1, her method 1. -/
namespace start1
open Jvm.ClassFile
def u (s : String) : CpInfo := .utf8 (stringToUtf16 s)
/-- a pool by its gaps: so many unusable entries, then the entry; so many at the end -/
def gap : Nat → List CpInfo → List CpInfo
  | 0, r => r
  | n + 1, r => .unusable :: gap n r
def poolList (es : List (Nat × CpInfo)) (last : Nat) : List CpInfo := es.foldr (fun e r => gap e.1 (e.2 :: r)) (gap last [])
def pool (es : List (Nat × CpInfo)) (last : Nat) : Array CpInfo := ⟨poolList es last⟩
def fileOf (pool : Array CpInfo) (this : Nat) (attrs : Array Attribute := #[]) (ms : Array MethodInfo := #[]) (fl : Nat := 33) (sup : Nat := 0) (ifs : Array Nat := #[]) (fds : Array FieldInfo := #[]) : ClassFile where
  minorVersion := 0
  majorVersion := 65
  constantPool := pool
  accessFlags := fl
  thisClass := this
  superClass := sup
  interfaces := ifs
  fields := fds
  methods := ms
  attributes := attrs
def plain (name : String) (sup : Option ClassId) : Class where
  name := name
  kind := .ordinary
  loader := none
  accessFlags := 33
  super := sup
  interfaces := #[]
  cf := none
  fields := #[]
  methods := #[]
  instanceTypes := #[]
  staticTypes := #[]
  resolved := #[]
  callSites := []
  init := .initialized
  statics := none
  mirror := none

def pool0 : Array CpInfo := pool [(5, u "<init>"), (0, u "()V"), (1, .class_ 10), (1, u "java/lang/Object")] 113

def k0c0 : Code := { maxStack := 0, maxLocals := 1, code := object_method_1_code, exceptionTable := #[], attributes := #[] }
def k0m0 : Method := { name := "<init>", desc := "()V", sig := { parameters := [], returnType := none }, accessFlags := 1, code := some k0c0 }
/-- java/lang/Object -/
def k0 : Class := { plain "java/lang/Object" none with
  accessFlags := 33
  interfaces := #[]
  cf := some (fileOf pool0 8 #[] #[{ accessFlags := 1, nameIndex := 5, descriptorIndex := 6, attributes := #[] }] 33 0 #[] #[])
  fields := #[]
  methods := #[k0m0]
  instanceTypes := #[]
  staticTypes := #[]
  resolved := Array.replicate 124 none
  statics := none }

def pool1 : Array CpInfo := pool [(2, .class_ 4), (0, .nameAndType 5 6), (0, u "java/lang/Object"), (0, u "<init>"), (0, u "()V"), (0, .class_ 8), (0, u "java/lang/Integer"), (0, .methodref 10 11), (0, .class_ 12), (0, .nameAndType 13 14), (0, u "com/example/trellis/trellis/IntTablePutPinLaw"), (0, u "val"), (0, u "(II)Ljava/lang/Integer;"), (0, .integer 2147483647), (0, .class_ 17), (0, u "com/example/trellis/trellis/IntTable"), (0, .methodref 16 3), (0, .methodref 16 20), (0, .nameAndType 21 22), (0, u "put"), (0, u "(ILjava/lang/Object;)V"), (0, .methodref 16 24), (0, .nameAndType 25 26), (0, u "get"), (0, u "(I)Ljava/lang/Object;"), (0, .methodref 16 28), (0, .nameAndType 29 30), (0, u "containsKey"), (0, u "(I)Z"), (0, .methodref 10 32), (0, .nameAndType 33 34), (0, u "same"), (0, u "(Ljava/lang/Integer;Ljava/lang/Integer;)Z"), (0, .methodref 7 36), (0, .nameAndType 37 38), (0, u "valueOf"), (0, u "(I)Ljava/lang/Integer;"), (0, .methodref 7 40), (0, .nameAndType 41 42), (0, u "intValue"), (0, u "()I"), (2, u "law"), (0, u "(IIIJII)Z")] 7

def k1m0 : Method := { name := "<init>", desc := "()V", sig := { parameters := [], returnType := none }, accessFlags := 1, code := none }
def k1c1 : Code := { maxStack := 5, maxLocals := 18, code := code, exceptionTable := #[], attributes := #[] }
def k1m1 : Method := { name := "law", desc := "(IIIJII)Z", sig := { parameters := [.int, .int, .int, .long, .int, .int], returnType := some .boolean }, accessFlags := 9, code := some k1c1 }
def k1c2 : Code := { maxStack := 3, maxLocals := 2, code := method_3_code, exceptionTable := #[], attributes := #[] }
def k1m2 : Method := { name := "val", desc := "(II)Ljava/lang/Integer;", sig := { parameters := [.int, .int], returnType := some (.object "java/lang/Integer") }, accessFlags := 10, code := some k1c2 }
def k1c3 : Code := { maxStack := 2, maxLocals := 2, code := method_4_code, exceptionTable := #[], attributes := #[] }
def k1m3 : Method := { name := "same", desc := "(Ljava/lang/Integer;Ljava/lang/Integer;)Z", sig := { parameters := [(.object "java/lang/Integer"), (.object "java/lang/Integer")], returnType := some .boolean }, accessFlags := 10, code := some k1c3 }
/-- com/example/trellis/trellis/IntTablePutPinLaw -/
def k1 : Class := { plain "com/example/trellis/trellis/IntTablePutPinLaw" (some 0) with
  accessFlags := 49
  interfaces := #[]
  cf := some (fileOf pool1 10 #[] #[{ accessFlags := 1, nameIndex := 5, descriptorIndex := 6, attributes := #[] }, { accessFlags := 9, nameIndex := 45, descriptorIndex := 46, attributes := #[] }, { accessFlags := 10, nameIndex := 13, descriptorIndex := 14, attributes := #[] }, { accessFlags := 10, nameIndex := 33, descriptorIndex := 34, attributes := #[] }] 49 2 #[] #[])
  fields := #[]
  methods := #[k1m0, k1m1, k1m2, k1m3]
  instanceTypes := #[]
  staticTypes := #[]
  resolved := Array.replicate 54 none
  statics := none }

def pool2 : Array CpInfo := pool [(1, .class_ 2), (0, u "java/io/Serializable"), (0, .class_ 4), (0, u "java/lang/Object")] 2

/-- java/io/Serializable -/
def k2 : Class := { plain "java/io/Serializable" (some 0) with
  accessFlags := 1537
  interfaces := #[]
  cf := some (fileOf pool2 1 #[] #[] 1537 3 #[] #[])
  fields := #[]
  methods := #[]
  instanceTypes := #[]
  staticTypes := #[]
  resolved := Array.replicate 7 none
  statics := none }

def pool3 : Array CpInfo := pool [(1, .methodref 2 3), (0, .class_ 4), (0, .nameAndType 5 6), (0, u "java/lang/Object"), (0, u "<init>"), (0, u "()V"), (1, .class_ 10), (1, u "java/lang/Number"), (2, .class_ 14), (0, u "java/io/Serializable"), (0, u "serialVersionUID"), (0, u "J")] 20

def k3c0 : Code := { maxStack := 1, maxLocals := 1, code := jdk_18_method_1_code, exceptionTable := #[], attributes := #[] }
def k3m0 : Method := { name := "<init>", desc := "()V", sig := { parameters := [], returnType := none }, accessFlags := 1, code := some k3c0 }
/-- java/lang/Number -/
def k3 : Class := { plain "java/lang/Number" (some 0) with
  accessFlags := 1057
  interfaces := #[2]
  cf := some (fileOf pool3 8 #[] #[{ accessFlags := 1, nameIndex := 5, descriptorIndex := 6, attributes := #[] }] 1057 2 #[13] #[{ accessFlags := 26, nameIndex := 15, descriptorIndex := 16, attributes := #[] }])
  fields := #[{ name := "serialVersionUID", type := .long, accessFlags := 26, slot := 0, constantValue := 0 }]
  methods := #[k3m0]
  instanceTypes := #[]
  staticTypes := #[.long]
  resolved := Array.replicate 37 none
  statics := none }

def pool4 : Array CpInfo := pool [(1, .class_ 2), (0, u "java/lang/Comparable"), (0, .class_ 4), (0, u "java/lang/Object")] 7

/-- java/lang/Comparable -/
def k4 : Class := { plain "java/lang/Comparable" (some 0) with
  accessFlags := 1537
  interfaces := #[]
  cf := some (fileOf pool4 1 #[] #[] 1537 3 #[] #[])
  fields := #[]
  methods := #[]
  instanceTypes := #[]
  staticTypes := #[]
  resolved := Array.replicate 12 none
  statics := none }

def pool5 : Array CpInfo := pool [(1, .class_ 2), (0, u "java/lang/constant/Constable"), (0, .class_ 4), (0, u "java/lang/Object")] 6

/-- java/lang/constant/Constable -/
def k5 : Class := { plain "java/lang/constant/Constable" (some 0) with
  accessFlags := 1537
  interfaces := #[]
  cf := some (fileOf pool5 1 #[] #[] 1537 3 #[] #[])
  fields := #[]
  methods := #[]
  instanceTypes := #[]
  staticTypes := #[]
  resolved := Array.replicate 11 none
  statics := none }

def pool6 : Array CpInfo := pool [(1, .class_ 2), (0, u "java/lang/constant/ConstantDesc"), (0, .class_ 4), (0, u "java/lang/Object")] 32

/-- java/lang/constant/ConstantDesc -/
def k6 : Class := { plain "java/lang/constant/ConstantDesc" (some 0) with
  accessFlags := 1537
  interfaces := #[]
  cf := some (fileOf pool6 1 #[] #[] 1537 3 #[] #[])
  fields := #[]
  methods := #[]
  instanceTypes := #[]
  staticTypes := #[]
  resolved := Array.replicate 37 none
  statics := none }

def pool7 : Array CpInfo := pool [(1, .class_ 2), (0, u "java/lang/Integer"), (16, u "digits"), (0, u "[C"), (46, u "<init>"), (17, u "DigitOnes"), (0, u "[B"), (2, u "DigitTens"), (10, .nameAndType 67 101), (0, u "()V"), (19, u "()I"), (65, u "valueOf"), (0, u "(I)Ljava/lang/Integer;"), (0, .class_ 190), (0, u "java/lang/Integer$IntegerCache"), (0, .fieldref 189 192), (0, .nameAndType 193 194), (0, u "high"), (0, u "I"), (4, .methodref 1 200), (0, .nameAndType 67 201), (0, u "(I)V"), (0, .methodref 203 100), (0, .class_ 204), (0, u "java/lang/Number"), (0, .fieldref 1 206), (0, .nameAndType 207 194), (0, u "value"), (5, u "intValue"), (88, u "TYPE"), (0, u "Ljava/lang/Class;"), (0, .class_ 305), (0, u "java/lang/Comparable"), (0, .class_ 307), (0, u "java/lang/constant/Constable"), (0, .class_ 309), (0, u "java/lang/constant/ConstantDesc"), (0, u "MIN_VALUE"), (1, u "MAX_VALUE"), (3, u "SIZE"), (1, u "BYTES"), (1, u "serialVersionUID"), (0, u "J")] 131

def k7c0 : Code := { maxStack := 3, maxLocals := 1, code := jdk_33_method_22_code, exceptionTable := #[], attributes := #[] }
def k7m0 : Method := { name := "valueOf", desc := "(I)Ljava/lang/Integer;", sig := { parameters := [.int], returnType := some (.object "java/lang/Integer") }, accessFlags := 9, code := some k7c0 }
def k7c1 : Code := { maxStack := 2, maxLocals := 2, code := jdk_33_method_23_code, exceptionTable := #[], attributes := #[] }
def k7m1 : Method := { name := "<init>", desc := "(I)V", sig := { parameters := [.int], returnType := none }, accessFlags := 1, code := some k7c1 }
def k7c2 : Code := { maxStack := 1, maxLocals := 1, code := jdk_33_method_27_code, exceptionTable := #[], attributes := #[] }
def k7m2 : Method := { name := "intValue", desc := "()I", sig := { parameters := [], returnType := some .int }, accessFlags := 1, code := some k7c2 }
/-- java/lang/Integer -/
def k7 : Class := { plain "java/lang/Integer" (some 3) with
  accessFlags := 49
  interfaces := #[4, 5, 6]
  cf := some (fileOf pool7 1 #[.nestMembers #[189]] #[{ accessFlags := 9, nameIndex := 187, descriptorIndex := 188, attributes := #[] }, { accessFlags := 1, nameIndex := 67, descriptorIndex := 201, attributes := #[] }, { accessFlags := 1, nameIndex := 213, descriptorIndex := 121, attributes := #[] }] 49 203 #[304, 306, 308] #[{ accessFlags := 25, nameIndex := 310, descriptorIndex := 194, attributes := #[] }, { accessFlags := 25, nameIndex := 312, descriptorIndex := 194, attributes := #[] }, { accessFlags := 25, nameIndex := 302, descriptorIndex := 303, attributes := #[] }, { accessFlags := 24, nameIndex := 19, descriptorIndex := 20, attributes := #[] }, { accessFlags := 24, nameIndex := 89, descriptorIndex := 86, attributes := #[] }, { accessFlags := 24, nameIndex := 85, descriptorIndex := 86, attributes := #[] }, { accessFlags := 18, nameIndex := 207, descriptorIndex := 194, attributes := #[] }, { accessFlags := 25, nameIndex := 316, descriptorIndex := 194, attributes := #[] }, { accessFlags := 25, nameIndex := 318, descriptorIndex := 194, attributes := #[] }, { accessFlags := 26, nameIndex := 320, descriptorIndex := 321, attributes := #[] }])
  fields := #[{ name := "MIN_VALUE", type := .int, accessFlags := 25, slot := 0, constantValue := 0 }, { name := "MAX_VALUE", type := .int, accessFlags := 25, slot := 1, constantValue := 0 }, { name := "TYPE", type := (.object "java/lang/Class"), accessFlags := 25, slot := 2, constantValue := 0 }, { name := "digits", type := (.array .char), accessFlags := 24, slot := 3, constantValue := 0 }, { name := "DigitTens", type := (.array .byte), accessFlags := 24, slot := 4, constantValue := 0 }, { name := "DigitOnes", type := (.array .byte), accessFlags := 24, slot := 5, constantValue := 0 }, { name := "value", type := .int, accessFlags := 18, slot := 0, constantValue := 0 }, { name := "SIZE", type := .int, accessFlags := 25, slot := 6, constantValue := 0 }, { name := "BYTES", type := .int, accessFlags := 25, slot := 7, constantValue := 0 }, { name := "serialVersionUID", type := .long, accessFlags := 26, slot := 8, constantValue := 0 }]
  methods := #[k7m0, k7m1, k7m2]
  instanceTypes := #[.int]
  staticTypes := #[.int, .int, (.object "java/lang/Class"), (.array .char), (.array .byte), (.array .byte), .int, .int, .long]
  resolved := Array.replicate 453 none
  statics := none }

def pool8 : Array CpInfo := pool [(2, .class_ 4), (1, u "java/lang/Object"), (0, u "<init>"), (0, u "()V"), (0, .class_ 8), (0, u "java/lang/Integer"), (7, .class_ 18), (1, u "java/lang/Integer$IntegerCache"), (0, u "$assertionsDisabled"), (0, u "Z"), (26, u "high"), (0, u "I"), (8, u "archivedCache"), (0, u "[Ljava/lang/Integer;"), (12, u "cache"), (0, u "low")] 27

def k8m0 : Method := { name := "<init>", desc := "()V", sig := { parameters := [], returnType := none }, accessFlags := 2, code := none }
/-- java/lang/Integer$IntegerCache -/
def k8 : Class := { plain "java/lang/Integer$IntegerCache" (some 0) with
  accessFlags := 48
  interfaces := #[]
  cf := some (fileOf pool8 16 #[.nestHost 7] #[{ accessFlags := 2, nameIndex := 5, descriptorIndex := 6, attributes := #[] }] 48 2 #[] #[{ accessFlags := 24, nameIndex := 72, descriptorIndex := 48, attributes := #[] }, { accessFlags := 24, nameIndex := 47, descriptorIndex := 48, attributes := #[] }, { accessFlags := 24, nameIndex := 71, descriptorIndex := 58, attributes := #[] }, { accessFlags := 8, nameIndex := 57, descriptorIndex := 58, attributes := #[] }, { accessFlags := 4120, nameIndex := 19, descriptorIndex := 20, attributes := #[] }])
  fields := #[{ name := "low", type := .int, accessFlags := 24, slot := 0, constantValue := 0 }, { name := "high", type := .int, accessFlags := 24, slot := 1, constantValue := 0 }, { name := "cache", type := (.array (.object "java/lang/Integer")), accessFlags := 24, slot := 2, constantValue := 0 }, { name := "archivedCache", type := (.array (.object "java/lang/Integer")), accessFlags := 8, slot := 3, constantValue := 0 }, { name := "$assertionsDisabled", type := .boolean, accessFlags := 4120, slot := 4, constantValue := 0 }]
  methods := #[k8m0]
  instanceTypes := #[]
  staticTypes := #[.int, .int, (.array (.object "java/lang/Integer")), (.array (.object "java/lang/Integer")), .boolean]
  resolved := Array.replicate 100 none
  statics := some 0 }

def pool9 : Array CpInfo := pool [(1, .methodref 2 3), (0, .class_ 4), (0, .nameAndType 5 6), (0, u "java/lang/Object"), (0, u "<init>"), (0, u "()V"), (0, .class_ 8), (0, u "com/example/trellis/trellis/IntTable"), (0, .fieldref 7 10), (0, .nameAndType 11 12), (0, u "keys"), (0, u "[I"), (0, .fieldref 7 14), (0, .nameAndType 15 16), (0, u "values"), (0, u "[Ljava/lang/Object;"), (0, .fieldref 7 18), (0, .nameAndType 19 20), (0, u "held"), (0, u "[Z"), (0, .methodref 7 22), (0, .nameAndType 23 24), (0, u "slot"), (0, u "(I)I"), (0, .fieldref 7 26), (0, .nameAndType 27 28), (0, u "size"), (0, u "I"), (0, .methodref 7 30), (0, .nameAndType 31 6), (0, u "grow"), (0, .integer 2654435769), (0, u "SLOTS"), (4, u "get"), (0, u "(I)Ljava/lang/Object;"), (3, u "containsKey"), (0, u "(I)Z"), (0, u "put"), (0, u "(ILjava/lang/Object;)V")] 7

def k9c0 : Code := { maxStack := 2, maxLocals := 1, code := prog_7_method_1_code, exceptionTable := #[], attributes := #[] }
def k9m0 : Method := { name := "<init>", desc := "()V", sig := { parameters := [], returnType := none }, accessFlags := 0, code := some k9c0 }
def k9c1 : Code := { maxStack := 2, maxLocals := 3, code := prog_7_method_2_code, exceptionTable := #[], attributes := #[] }
def k9m1 : Method := { name := "get", desc := "(I)Ljava/lang/Object;", sig := { parameters := [.int], returnType := some (.object "java/lang/Object") }, accessFlags := 0, code := some k9c1 }
def k9c2 : Code := { maxStack := 3, maxLocals := 2, code := prog_7_method_3_code, exceptionTable := #[], attributes := #[] }
def k9m2 : Method := { name := "containsKey", desc := "(I)Z", sig := { parameters := [.int], returnType := some .boolean }, accessFlags := 0, code := some k9c2 }
def k9c3 : Code := { maxStack := 3, maxLocals := 4, code := prog_7_method_4_code, exceptionTable := #[], attributes := #[] }
def k9m3 : Method := { name := "put", desc := "(ILjava/lang/Object;)V", sig := { parameters := [.int, (.object "java/lang/Object")], returnType := none }, accessFlags := 0, code := some k9c3 }
def k9c4 : Code := { maxStack := 3, maxLocals := 5, code := prog_7_method_5_code, exceptionTable := #[], attributes := #[] }
def k9m4 : Method := { name := "slot", desc := "(I)I", sig := { parameters := [.int], returnType := some .int }, accessFlags := 2, code := some k9c4 }
def k9c5 : Code := { maxStack := 4, maxLocals := 6, code := prog_7_method_6_code, exceptionTable := #[], attributes := #[] }
def k9m5 : Method := { name := "grow", desc := "()V", sig := { parameters := [], returnType := none }, accessFlags := 2, code := some k9c5 }
/-- com/example/trellis/trellis/IntTable -/
def k9 : Class := { plain "com/example/trellis/trellis/IntTable" (some 0) with
  accessFlags := 32
  interfaces := #[]
  cf := some (fileOf pool9 7 #[] #[{ accessFlags := 0, nameIndex := 5, descriptorIndex := 6, attributes := #[] }, { accessFlags := 0, nameIndex := 38, descriptorIndex := 39, attributes := #[] }, { accessFlags := 0, nameIndex := 43, descriptorIndex := 44, attributes := #[] }, { accessFlags := 0, nameIndex := 45, descriptorIndex := 46, attributes := #[] }, { accessFlags := 2, nameIndex := 23, descriptorIndex := 24, attributes := #[] }, { accessFlags := 2, nameIndex := 31, descriptorIndex := 6, attributes := #[] }] 32 2 #[] #[{ accessFlags := 26, nameIndex := 33, descriptorIndex := 28, attributes := #[] }, { accessFlags := 2, nameIndex := 11, descriptorIndex := 12, attributes := #[] }, { accessFlags := 2, nameIndex := 15, descriptorIndex := 16, attributes := #[] }, { accessFlags := 2, nameIndex := 19, descriptorIndex := 20, attributes := #[] }, { accessFlags := 2, nameIndex := 27, descriptorIndex := 28, attributes := #[] }])
  fields := #[{ name := "SLOTS", type := .int, accessFlags := 26, slot := 0, constantValue := 0 }, { name := "keys", type := (.array .int), accessFlags := 2, slot := 0, constantValue := 0 }, { name := "values", type := (.array (.object "java/lang/Object")), accessFlags := 2, slot := 1, constantValue := 0 }, { name := "held", type := (.array .boolean), accessFlags := 2, slot := 2, constantValue := 0 }, { name := "size", type := .int, accessFlags := 2, slot := 3, constantValue := 0 }]
  methods := #[k9m0, k9m1, k9m2, k9m3, k9m4, k9m5]
  instanceTypes := #[(.array .int), (.array (.object "java/lang/Object")), (.array .boolean), .int]
  staticTypes := #[.int]
  resolved := Array.replicate 54 none
  statics := none }

def pool10 : Array CpInfo := pool [(1, u "java/lang/Cloneable"), (0, .class_ 1), (0, u "java/lang/Object"), (0, .class_ 3)] 3

/-- java/lang/Cloneable -/
def k10 : Class := { plain "java/lang/Cloneable" (some 0) with
  accessFlags := 1537
  interfaces := #[]
  cf := some (fileOf pool10 2 #[] #[] 1537 4 #[] #[])
  fields := #[]
  methods := #[]
  instanceTypes := #[]
  staticTypes := #[]
  resolved := Array.replicate 8 none
  statics := none }

/-- the primitive boolean -/
def k11 : Class := { plain "boolean" none with kind := .primitive 'Z', accessFlags := 0x411 }
/-- [Z -/
def k12 : Class := { plain "[Z" (some 0) with kind := .array 11 .boolean, interfaces := #[10, 2], accessFlags := 1041 }

/-- the primitive byte -/
def k13 : Class := { plain "byte" none with kind := .primitive 'B', accessFlags := 0x411 }
/-- [B -/
def k14 : Class := { plain "[B" (some 0) with kind := .array 13 .byte, interfaces := #[10, 2], accessFlags := 1041 }

/-- the primitive int -/
def k15 : Class := { plain "int" none with kind := .primitive 'I', accessFlags := 0x411 }
/-- [I -/
def k16 : Class := { plain "[I" (some 0) with kind := .array 15 .int, interfaces := #[10, 2], accessFlags := 1041 }

/-- [Ljava/lang/Integer; -/
def k17 : Class := { plain "[Ljava/lang/Integer;" (some 0) with kind := .array 7 (.object "java/lang/Integer"), interfaces := #[10, 2], accessFlags := 1041 }

/-- [Ljava/lang/Object; -/
def k18 : Class := { plain "[Ljava/lang/Object;" (some 0) with kind := .array 0 (.object "java/lang/Object"), interfaces := #[10, 2], accessFlags := 1041 }

def heap : Heap := #[{ cls := 8, slots := #[.int 0, .int 127, .ref 1, .null, .int 0], vm := .statics 8 },
  { cls := 17, slots := #[.ref 2, .ref 3, .ref 4, .ref 5, .ref 6, .ref 7, .ref 8, .ref 9, .ref 10, .ref 11, .ref 12, .ref 13, .ref 14, .ref 15, .ref 16, .ref 17, .ref 18, .ref 19, .ref 20, .ref 21, .ref 22, .ref 23, .ref 24, .ref 25, .ref 26, .ref 27, .ref 28, .ref 29, .ref 30, .ref 31, .ref 32, .ref 33, .ref 34, .ref 35, .ref 36, .ref 37, .ref 38, .ref 39, .ref 40, .ref 41, .ref 42, .ref 43, .ref 44, .ref 45, .ref 46, .ref 47, .ref 48, .ref 49, .ref 50, .ref 51, .ref 52, .ref 53, .ref 54, .ref 55, .ref 56, .ref 57, .ref 58, .ref 59, .ref 60, .ref 61, .ref 62, .ref 63, .ref 64, .ref 65, .ref 66, .ref 67, .ref 68, .ref 69, .ref 70, .ref 71, .ref 72, .ref 73, .ref 74, .ref 75, .ref 76, .ref 77, .ref 78, .ref 79, .ref 80, .ref 81, .ref 82, .ref 83, .ref 84, .ref 85, .ref 86, .ref 87, .ref 88, .ref 89, .ref 90, .ref 91, .ref 92, .ref 93, .ref 94, .ref 95, .ref 96, .ref 97, .ref 98, .ref 99, .ref 100, .ref 101, .ref 102, .ref 103, .ref 104, .ref 105, .ref 106, .ref 107, .ref 108, .ref 109, .ref 110, .ref 111, .ref 112, .ref 113, .ref 114, .ref 115, .ref 116, .ref 117, .ref 118, .ref 119, .ref 120, .ref 121, .ref 122, .ref 123, .ref 124, .ref 125, .ref 126, .ref 127, .ref 128, .ref 129, .ref 130, .ref 131, .ref 132, .ref 133, .ref 134, .ref 135, .ref 136, .ref 137, .ref 138, .ref 139, .ref 140, .ref 141, .ref 142, .ref 143, .ref 144, .ref 145, .ref 146, .ref 147, .ref 148, .ref 149, .ref 150, .ref 151, .ref 152, .ref 153, .ref 154, .ref 155, .ref 156, .ref 157, .ref 158, .ref 159, .ref 160, .ref 161, .ref 162, .ref 163, .ref 164, .ref 165, .ref 166, .ref 167, .ref 168, .ref 169, .ref 170, .ref 171, .ref 172, .ref 173, .ref 174, .ref 175, .ref 176, .ref 177, .ref 178, .ref 179, .ref 180, .ref 181, .ref 182, .ref 183, .ref 184, .ref 185, .ref 186, .ref 187, .ref 188, .ref 189, .ref 190, .ref 191, .ref 192, .ref 193, .ref 194, .ref 195, .ref 196, .ref 197, .ref 198, .ref 199, .ref 200, .ref 201, .ref 202, .ref 203, .ref 204, .ref 205, .ref 206, .ref 207, .ref 208, .ref 209, .ref 210, .ref 211, .ref 212, .ref 213, .ref 214, .ref 215, .ref 216, .ref 217, .ref 218, .ref 219, .ref 220, .ref 221, .ref 222, .ref 223, .ref 224, .ref 225, .ref 226, .ref 227, .ref 228, .ref 229, .ref 230, .ref 231, .ref 232, .ref 233, .ref 234, .ref 235, .ref 236, .ref 237, .ref 238, .ref 239, .ref 240, .ref 241, .ref 242, .ref 243, .ref 244, .ref 245, .ref 246, .ref 247, .ref 248, .ref 249, .ref 250, .ref 251, .ref 252, .ref 253, .ref 254, .ref 255, .ref 256, .ref 257], vm := .none },
  { cls := 7, slots := #[.int (-128)], vm := .none },
  { cls := 7, slots := #[.int (-127)], vm := .none },
  { cls := 7, slots := #[.int (-126)], vm := .none },
  { cls := 7, slots := #[.int (-125)], vm := .none },
  { cls := 7, slots := #[.int (-124)], vm := .none },
  { cls := 7, slots := #[.int (-123)], vm := .none },
  { cls := 7, slots := #[.int (-122)], vm := .none },
  { cls := 7, slots := #[.int (-121)], vm := .none },
  { cls := 7, slots := #[.int (-120)], vm := .none },
  { cls := 7, slots := #[.int (-119)], vm := .none },
  { cls := 7, slots := #[.int (-118)], vm := .none },
  { cls := 7, slots := #[.int (-117)], vm := .none },
  { cls := 7, slots := #[.int (-116)], vm := .none },
  { cls := 7, slots := #[.int (-115)], vm := .none },
  { cls := 7, slots := #[.int (-114)], vm := .none },
  { cls := 7, slots := #[.int (-113)], vm := .none },
  { cls := 7, slots := #[.int (-112)], vm := .none },
  { cls := 7, slots := #[.int (-111)], vm := .none },
  { cls := 7, slots := #[.int (-110)], vm := .none },
  { cls := 7, slots := #[.int (-109)], vm := .none },
  { cls := 7, slots := #[.int (-108)], vm := .none },
  { cls := 7, slots := #[.int (-107)], vm := .none },
  { cls := 7, slots := #[.int (-106)], vm := .none },
  { cls := 7, slots := #[.int (-105)], vm := .none },
  { cls := 7, slots := #[.int (-104)], vm := .none },
  { cls := 7, slots := #[.int (-103)], vm := .none },
  { cls := 7, slots := #[.int (-102)], vm := .none },
  { cls := 7, slots := #[.int (-101)], vm := .none },
  { cls := 7, slots := #[.int (-100)], vm := .none },
  { cls := 7, slots := #[.int (-99)], vm := .none },
  { cls := 7, slots := #[.int (-98)], vm := .none },
  { cls := 7, slots := #[.int (-97)], vm := .none },
  { cls := 7, slots := #[.int (-96)], vm := .none },
  { cls := 7, slots := #[.int (-95)], vm := .none },
  { cls := 7, slots := #[.int (-94)], vm := .none },
  { cls := 7, slots := #[.int (-93)], vm := .none },
  { cls := 7, slots := #[.int (-92)], vm := .none },
  { cls := 7, slots := #[.int (-91)], vm := .none },
  { cls := 7, slots := #[.int (-90)], vm := .none },
  { cls := 7, slots := #[.int (-89)], vm := .none },
  { cls := 7, slots := #[.int (-88)], vm := .none },
  { cls := 7, slots := #[.int (-87)], vm := .none },
  { cls := 7, slots := #[.int (-86)], vm := .none },
  { cls := 7, slots := #[.int (-85)], vm := .none },
  { cls := 7, slots := #[.int (-84)], vm := .none },
  { cls := 7, slots := #[.int (-83)], vm := .none },
  { cls := 7, slots := #[.int (-82)], vm := .none },
  { cls := 7, slots := #[.int (-81)], vm := .none },
  { cls := 7, slots := #[.int (-80)], vm := .none },
  { cls := 7, slots := #[.int (-79)], vm := .none },
  { cls := 7, slots := #[.int (-78)], vm := .none },
  { cls := 7, slots := #[.int (-77)], vm := .none },
  { cls := 7, slots := #[.int (-76)], vm := .none },
  { cls := 7, slots := #[.int (-75)], vm := .none },
  { cls := 7, slots := #[.int (-74)], vm := .none },
  { cls := 7, slots := #[.int (-73)], vm := .none },
  { cls := 7, slots := #[.int (-72)], vm := .none },
  { cls := 7, slots := #[.int (-71)], vm := .none },
  { cls := 7, slots := #[.int (-70)], vm := .none },
  { cls := 7, slots := #[.int (-69)], vm := .none },
  { cls := 7, slots := #[.int (-68)], vm := .none },
  { cls := 7, slots := #[.int (-67)], vm := .none },
  { cls := 7, slots := #[.int (-66)], vm := .none },
  { cls := 7, slots := #[.int (-65)], vm := .none },
  { cls := 7, slots := #[.int (-64)], vm := .none },
  { cls := 7, slots := #[.int (-63)], vm := .none },
  { cls := 7, slots := #[.int (-62)], vm := .none },
  { cls := 7, slots := #[.int (-61)], vm := .none },
  { cls := 7, slots := #[.int (-60)], vm := .none },
  { cls := 7, slots := #[.int (-59)], vm := .none },
  { cls := 7, slots := #[.int (-58)], vm := .none },
  { cls := 7, slots := #[.int (-57)], vm := .none },
  { cls := 7, slots := #[.int (-56)], vm := .none },
  { cls := 7, slots := #[.int (-55)], vm := .none },
  { cls := 7, slots := #[.int (-54)], vm := .none },
  { cls := 7, slots := #[.int (-53)], vm := .none },
  { cls := 7, slots := #[.int (-52)], vm := .none },
  { cls := 7, slots := #[.int (-51)], vm := .none },
  { cls := 7, slots := #[.int (-50)], vm := .none },
  { cls := 7, slots := #[.int (-49)], vm := .none },
  { cls := 7, slots := #[.int (-48)], vm := .none },
  { cls := 7, slots := #[.int (-47)], vm := .none },
  { cls := 7, slots := #[.int (-46)], vm := .none },
  { cls := 7, slots := #[.int (-45)], vm := .none },
  { cls := 7, slots := #[.int (-44)], vm := .none },
  { cls := 7, slots := #[.int (-43)], vm := .none },
  { cls := 7, slots := #[.int (-42)], vm := .none },
  { cls := 7, slots := #[.int (-41)], vm := .none },
  { cls := 7, slots := #[.int (-40)], vm := .none },
  { cls := 7, slots := #[.int (-39)], vm := .none },
  { cls := 7, slots := #[.int (-38)], vm := .none },
  { cls := 7, slots := #[.int (-37)], vm := .none },
  { cls := 7, slots := #[.int (-36)], vm := .none },
  { cls := 7, slots := #[.int (-35)], vm := .none },
  { cls := 7, slots := #[.int (-34)], vm := .none },
  { cls := 7, slots := #[.int (-33)], vm := .none },
  { cls := 7, slots := #[.int (-32)], vm := .none },
  { cls := 7, slots := #[.int (-31)], vm := .none },
  { cls := 7, slots := #[.int (-30)], vm := .none },
  { cls := 7, slots := #[.int (-29)], vm := .none },
  { cls := 7, slots := #[.int (-28)], vm := .none },
  { cls := 7, slots := #[.int (-27)], vm := .none },
  { cls := 7, slots := #[.int (-26)], vm := .none },
  { cls := 7, slots := #[.int (-25)], vm := .none },
  { cls := 7, slots := #[.int (-24)], vm := .none },
  { cls := 7, slots := #[.int (-23)], vm := .none },
  { cls := 7, slots := #[.int (-22)], vm := .none },
  { cls := 7, slots := #[.int (-21)], vm := .none },
  { cls := 7, slots := #[.int (-20)], vm := .none },
  { cls := 7, slots := #[.int (-19)], vm := .none },
  { cls := 7, slots := #[.int (-18)], vm := .none },
  { cls := 7, slots := #[.int (-17)], vm := .none },
  { cls := 7, slots := #[.int (-16)], vm := .none },
  { cls := 7, slots := #[.int (-15)], vm := .none },
  { cls := 7, slots := #[.int (-14)], vm := .none },
  { cls := 7, slots := #[.int (-13)], vm := .none },
  { cls := 7, slots := #[.int (-12)], vm := .none },
  { cls := 7, slots := #[.int (-11)], vm := .none },
  { cls := 7, slots := #[.int (-10)], vm := .none },
  { cls := 7, slots := #[.int (-9)], vm := .none },
  { cls := 7, slots := #[.int (-8)], vm := .none },
  { cls := 7, slots := #[.int (-7)], vm := .none },
  { cls := 7, slots := #[.int (-6)], vm := .none },
  { cls := 7, slots := #[.int (-5)], vm := .none },
  { cls := 7, slots := #[.int (-4)], vm := .none },
  { cls := 7, slots := #[.int (-3)], vm := .none },
  { cls := 7, slots := #[.int (-2)], vm := .none },
  { cls := 7, slots := #[.int (-1)], vm := .none },
  { cls := 7, slots := #[.int (0)], vm := .none },
  { cls := 7, slots := #[.int (1)], vm := .none },
  { cls := 7, slots := #[.int (2)], vm := .none },
  { cls := 7, slots := #[.int (3)], vm := .none },
  { cls := 7, slots := #[.int (4)], vm := .none },
  { cls := 7, slots := #[.int (5)], vm := .none },
  { cls := 7, slots := #[.int (6)], vm := .none },
  { cls := 7, slots := #[.int (7)], vm := .none },
  { cls := 7, slots := #[.int (8)], vm := .none },
  { cls := 7, slots := #[.int (9)], vm := .none },
  { cls := 7, slots := #[.int (10)], vm := .none },
  { cls := 7, slots := #[.int (11)], vm := .none },
  { cls := 7, slots := #[.int (12)], vm := .none },
  { cls := 7, slots := #[.int (13)], vm := .none },
  { cls := 7, slots := #[.int (14)], vm := .none },
  { cls := 7, slots := #[.int (15)], vm := .none },
  { cls := 7, slots := #[.int (16)], vm := .none },
  { cls := 7, slots := #[.int (17)], vm := .none },
  { cls := 7, slots := #[.int (18)], vm := .none },
  { cls := 7, slots := #[.int (19)], vm := .none },
  { cls := 7, slots := #[.int (20)], vm := .none },
  { cls := 7, slots := #[.int (21)], vm := .none },
  { cls := 7, slots := #[.int (22)], vm := .none },
  { cls := 7, slots := #[.int (23)], vm := .none },
  { cls := 7, slots := #[.int (24)], vm := .none },
  { cls := 7, slots := #[.int (25)], vm := .none },
  { cls := 7, slots := #[.int (26)], vm := .none },
  { cls := 7, slots := #[.int (27)], vm := .none },
  { cls := 7, slots := #[.int (28)], vm := .none },
  { cls := 7, slots := #[.int (29)], vm := .none },
  { cls := 7, slots := #[.int (30)], vm := .none },
  { cls := 7, slots := #[.int (31)], vm := .none },
  { cls := 7, slots := #[.int (32)], vm := .none },
  { cls := 7, slots := #[.int (33)], vm := .none },
  { cls := 7, slots := #[.int (34)], vm := .none },
  { cls := 7, slots := #[.int (35)], vm := .none },
  { cls := 7, slots := #[.int (36)], vm := .none },
  { cls := 7, slots := #[.int (37)], vm := .none },
  { cls := 7, slots := #[.int (38)], vm := .none },
  { cls := 7, slots := #[.int (39)], vm := .none },
  { cls := 7, slots := #[.int (40)], vm := .none },
  { cls := 7, slots := #[.int (41)], vm := .none },
  { cls := 7, slots := #[.int (42)], vm := .none },
  { cls := 7, slots := #[.int (43)], vm := .none },
  { cls := 7, slots := #[.int (44)], vm := .none },
  { cls := 7, slots := #[.int (45)], vm := .none },
  { cls := 7, slots := #[.int (46)], vm := .none },
  { cls := 7, slots := #[.int (47)], vm := .none },
  { cls := 7, slots := #[.int (48)], vm := .none },
  { cls := 7, slots := #[.int (49)], vm := .none },
  { cls := 7, slots := #[.int (50)], vm := .none },
  { cls := 7, slots := #[.int (51)], vm := .none },
  { cls := 7, slots := #[.int (52)], vm := .none },
  { cls := 7, slots := #[.int (53)], vm := .none },
  { cls := 7, slots := #[.int (54)], vm := .none },
  { cls := 7, slots := #[.int (55)], vm := .none },
  { cls := 7, slots := #[.int (56)], vm := .none },
  { cls := 7, slots := #[.int (57)], vm := .none },
  { cls := 7, slots := #[.int (58)], vm := .none },
  { cls := 7, slots := #[.int (59)], vm := .none },
  { cls := 7, slots := #[.int (60)], vm := .none },
  { cls := 7, slots := #[.int (61)], vm := .none },
  { cls := 7, slots := #[.int (62)], vm := .none },
  { cls := 7, slots := #[.int (63)], vm := .none },
  { cls := 7, slots := #[.int (64)], vm := .none },
  { cls := 7, slots := #[.int (65)], vm := .none },
  { cls := 7, slots := #[.int (66)], vm := .none },
  { cls := 7, slots := #[.int (67)], vm := .none },
  { cls := 7, slots := #[.int (68)], vm := .none },
  { cls := 7, slots := #[.int (69)], vm := .none },
  { cls := 7, slots := #[.int (70)], vm := .none },
  { cls := 7, slots := #[.int (71)], vm := .none },
  { cls := 7, slots := #[.int (72)], vm := .none },
  { cls := 7, slots := #[.int (73)], vm := .none },
  { cls := 7, slots := #[.int (74)], vm := .none },
  { cls := 7, slots := #[.int (75)], vm := .none },
  { cls := 7, slots := #[.int (76)], vm := .none },
  { cls := 7, slots := #[.int (77)], vm := .none },
  { cls := 7, slots := #[.int (78)], vm := .none },
  { cls := 7, slots := #[.int (79)], vm := .none },
  { cls := 7, slots := #[.int (80)], vm := .none },
  { cls := 7, slots := #[.int (81)], vm := .none },
  { cls := 7, slots := #[.int (82)], vm := .none },
  { cls := 7, slots := #[.int (83)], vm := .none },
  { cls := 7, slots := #[.int (84)], vm := .none },
  { cls := 7, slots := #[.int (85)], vm := .none },
  { cls := 7, slots := #[.int (86)], vm := .none },
  { cls := 7, slots := #[.int (87)], vm := .none },
  { cls := 7, slots := #[.int (88)], vm := .none },
  { cls := 7, slots := #[.int (89)], vm := .none },
  { cls := 7, slots := #[.int (90)], vm := .none },
  { cls := 7, slots := #[.int (91)], vm := .none },
  { cls := 7, slots := #[.int (92)], vm := .none },
  { cls := 7, slots := #[.int (93)], vm := .none },
  { cls := 7, slots := #[.int (94)], vm := .none },
  { cls := 7, slots := #[.int (95)], vm := .none },
  { cls := 7, slots := #[.int (96)], vm := .none },
  { cls := 7, slots := #[.int (97)], vm := .none },
  { cls := 7, slots := #[.int (98)], vm := .none },
  { cls := 7, slots := #[.int (99)], vm := .none },
  { cls := 7, slots := #[.int (100)], vm := .none },
  { cls := 7, slots := #[.int (101)], vm := .none },
  { cls := 7, slots := #[.int (102)], vm := .none },
  { cls := 7, slots := #[.int (103)], vm := .none },
  { cls := 7, slots := #[.int (104)], vm := .none },
  { cls := 7, slots := #[.int (105)], vm := .none },
  { cls := 7, slots := #[.int (106)], vm := .none },
  { cls := 7, slots := #[.int (107)], vm := .none },
  { cls := 7, slots := #[.int (108)], vm := .none },
  { cls := 7, slots := #[.int (109)], vm := .none },
  { cls := 7, slots := #[.int (110)], vm := .none },
  { cls := 7, slots := #[.int (111)], vm := .none },
  { cls := 7, slots := #[.int (112)], vm := .none },
  { cls := 7, slots := #[.int (113)], vm := .none },
  { cls := 7, slots := #[.int (114)], vm := .none },
  { cls := 7, slots := #[.int (115)], vm := .none },
  { cls := 7, slots := #[.int (116)], vm := .none },
  { cls := 7, slots := #[.int (117)], vm := .none },
  { cls := 7, slots := #[.int (118)], vm := .none },
  { cls := 7, slots := #[.int (119)], vm := .none },
  { cls := 7, slots := #[.int (120)], vm := .none },
  { cls := 7, slots := #[.int (121)], vm := .none },
  { cls := 7, slots := #[.int (122)], vm := .none },
  { cls := 7, slots := #[.int (123)], vm := .none },
  { cls := 7, slots := #[.int (124)], vm := .none },
  { cls := 7, slots := #[.int (125)], vm := .none },
  { cls := 7, slots := #[.int (126)], vm := .none },
  { cls := 7, slots := #[.int (127)], vm := .none }]
def classes : Array Class := #[k0, k1, k2, k3, k4, k5, k6, k7, k8, k9, k10, k11, k12, k13, k14, k15, k16, k17, k18]
def interned : List (Array UInt16 × Addr) := []
def slotsUsed : Nat := 517
def theMethod : MethodId := ⟨1, 1⟩
def args0 : Array Value := #[.int 5, .int 6, .int 7, .long 8, .int 9, .int 3]
def aboutOver (below : List Frame) : State where
  vm := { classes := classes, interned := interned.toArray }
  heap := heap
  slotsUsed := slotsUsed
  threads := #[{ frames := .invoking theMethod args0 :: below }]
def below0 : List Frame := [.native { method := ⟨0, 0⟩, args := #[] }]
def about1 : State := aboutOver below0
def p0 : Program := .bare "" "" ""
def e0 : Env := launch0.env 0 0 0
theorem w_frames : about1.frames = Frame.invoking theMethod args0 :: below0 := rfl
set_option maxRecDepth 65536 in
theorem w_args : argsFit about1.vm theMethod args0 = true := by decide +kernel
set_option maxRecDepth 65536 in
theorem w_heap : heapFits about1 = true := by decide +kernel
set_option maxRecDepth 65536 in
theorem w_runnable : about1.curStatus? = some .runnable := by decide +kernel
set_option maxRecDepth 65536 in
theorem w_alone : about1.alone = true := by decide +kernel
set_option maxRecDepth 65536 in
theorem w_named : about1.methodNamed? x = some theMethod := by decide +kernel
set_option maxRecDepth 65536 in
theorem w_hears : about1.hears theMethod below0 = true := by decide +kernel
set_option maxRecDepth 65536 in
theorem w_ripe : about1.ripe theMethod args0 below0 = true := by decide +kernel
theorem w_running : about1.status = .running := rfl
set_option maxRecDepth 65536 in
theorem w_room : about1.hasRoom e0.platform room_1 = true :=
  launch0.hasRoom_least _ room_1 (by decide +kernel) (by decide +kernel) (by decide +kernel) (by decide +kernel) (by decide +kernel) (by decide +kernel)
theorem allAtoms_all (ts : List Jvm.Cond) (a : Array Jvm.Value) (st : Jvm.State) : (allAtoms ts).before a st = ts.all (fun c => c.before a st) := by
  induction ts with
  | nil => rfl
  | cons c t ih =>
    show (Jvm.Cond.and c (allAtoms t)).before a st = _
    rw [Jvm.Cond.before_and, ih, List.all_cons]
def words1 : List Jvm.Cond := Jvm.Cond.code x code maxLocals ret :: tables_1
/-- a 'code' word, met by the world's own term for the bytes: nothing is compared byte by byte -/
theorem code_word {y : MethodName} {bytes : ByteArray} {mx : Nat} {rt : Option FieldType} {a : Array Value} {s : State} {m : MethodId} {meth : Method} {c : Code} (h1 : s.methodNamed? y = some m) (h2 : s.vm.method? m = some meth) (h3 : meth.code = some c) (h4 : c.code = bytes)
    (h5 : (c.maxLocals == mx && c.exceptionTable.isEmpty && decide (c.maxStack ≤ mostOperands) && decide (meth.sig.returnType = rt) && !meth.locks && decide (parseMethodDescriptor y.desc = some meth.sig)) = true) : (Jvm.Cond.code y bytes mx rt).before a s = true := by
  simp only [Bool.and_eq_true, beq_iff_eq, Bool.not_eq_true', decide_eq_true_eq] at h5
  obtain ⟨⟨⟨⟨⟨g1, g2⟩, g3⟩, g4⟩, g5⟩, g6⟩ := h5
  simp [Cond.before, Cond.holds, Cond.value, h1, h2, h3, h4, g1, g2, g3, g4, g5, g6]
def isCode : Jvm.Cond → Bool
  | .code _ _ _ _ => true
  | _ => false
theorem all_split {L : List Jvm.Cond} {P : Jvm.Cond → Bool} (h1 : L.all (fun c => isCode c || P c) = true) (h2 : ∀ c ∈ L.filter isCode, P c = true) : L.all P = true := by
  refine List.all_eq_true.mpr fun c hc => ?_
  have h := List.all_eq_true.mp h1 c hc
  rcases Bool.eq_false_or_eq_true (isCode c) with hi | hi
  · exact h2 c (List.mem_filter.mpr ⟨hc, hi⟩)
  · simpa [hi] using h
set_option maxRecDepth 65536 in
theorem w_c0 : (Jvm.Cond.code x code maxLocals ret).before args0 about1 = true := code_word (m := ⟨1, 1⟩) (meth := k1m1) (c := k1c1) (by decide +kernel) rfl rfl rfl (by decide +kernel)
set_option maxRecDepth 65536 in
theorem w_c1 : (Jvm.Cond.code ({ cls := "com/example/trellis/trellis/IntTablePutPinLaw", name := "val", desc := "(II)Ljava/lang/Integer;" } : Jvm.MethodName) method_3_code (2 : Nat) (Option.some (Jvm.ClassFile.FieldType.object "java/lang/Integer"))).before args0 about1 = true := code_word (m := ⟨1, 2⟩) (meth := k1m2) (c := k1c2) (by decide +kernel) rfl rfl rfl (by decide +kernel)
set_option maxRecDepth 65536 in
theorem w_c2 : (Jvm.Cond.code ({ cls := "java/lang/Integer", name := "valueOf", desc := "(I)Ljava/lang/Integer;" } : Jvm.MethodName) jdk_33_method_22_code (1 : Nat) (Option.some (Jvm.ClassFile.FieldType.object "java/lang/Integer"))).before args0 about1 = true := code_word (m := ⟨7, 0⟩) (meth := k7m0) (c := k7c0) (by decide +kernel) rfl rfl rfl (by decide +kernel)
set_option maxRecDepth 65536 in
theorem w_c3 : (Jvm.Cond.code ({ cls := "java/lang/Integer", name := "<init>", desc := "(I)V" } : Jvm.MethodName) jdk_33_method_23_code (2 : Nat) (Option.none : Option Jvm.ClassFile.FieldType)).before args0 about1 = true := code_word (m := ⟨7, 1⟩) (meth := k7m1) (c := k7c1) (by decide +kernel) rfl rfl rfl (by decide +kernel)
set_option maxRecDepth 65536 in
theorem w_c4 : (Jvm.Cond.code ({ cls := "java/lang/Number", name := "<init>", desc := "()V" } : Jvm.MethodName) jdk_18_method_1_code (1 : Nat) (Option.none : Option Jvm.ClassFile.FieldType)).before args0 about1 = true := code_word (m := ⟨3, 0⟩) (meth := k3m0) (c := k3c0) (by decide +kernel) rfl rfl rfl (by decide +kernel)
set_option maxRecDepth 65536 in
theorem w_c5 : (Jvm.Cond.code ({ cls := "java/lang/Object", name := "<init>", desc := "()V" } : Jvm.MethodName) object_method_1_code (1 : Nat) (Option.none : Option Jvm.ClassFile.FieldType)).before args0 about1 = true := code_word (m := ⟨0, 0⟩) (meth := k0m0) (c := k0c0) (by decide +kernel) rfl rfl rfl (by decide +kernel)
set_option maxRecDepth 65536 in
theorem w_c6 : (Jvm.Cond.code ({ cls := "com/example/trellis/trellis/IntTable", name := "<init>", desc := "()V" } : Jvm.MethodName) prog_7_method_1_code (1 : Nat) (Option.none : Option Jvm.ClassFile.FieldType)).before args0 about1 = true := code_word (m := ⟨9, 0⟩) (meth := k9m0) (c := k9c0) (by decide +kernel) rfl rfl rfl (by decide +kernel)
set_option maxRecDepth 65536 in
theorem w_c7 : (Jvm.Cond.code ({ cls := "com/example/trellis/trellis/IntTable", name := "put", desc := "(ILjava/lang/Object;)V" } : Jvm.MethodName) prog_7_method_4_code (4 : Nat) (Option.none : Option Jvm.ClassFile.FieldType)).before args0 about1 = true := code_word (m := ⟨9, 3⟩) (meth := k9m3) (c := k9c3) (by decide +kernel) rfl rfl rfl (by decide +kernel)
set_option maxRecDepth 65536 in
theorem w_c8 : (Jvm.Cond.code ({ cls := "com/example/trellis/trellis/IntTable", name := "slot", desc := "(I)I" } : Jvm.MethodName) prog_7_method_5_code (5 : Nat) (Option.some Jvm.ClassFile.FieldType.int)).before args0 about1 = true := code_word (m := ⟨9, 4⟩) (meth := k9m4) (c := k9c4) (by decide +kernel) rfl rfl rfl (by decide +kernel)
set_option maxRecDepth 65536 in
theorem w_c9 : (Jvm.Cond.code ({ cls := "com/example/trellis/trellis/IntTable", name := "get", desc := "(I)Ljava/lang/Object;" } : Jvm.MethodName) prog_7_method_2_code (3 : Nat) (Option.some (Jvm.ClassFile.FieldType.object "java/lang/Object"))).before args0 about1 = true := code_word (m := ⟨9, 1⟩) (meth := k9m1) (c := k9c1) (by decide +kernel) rfl rfl rfl (by decide +kernel)
set_option maxRecDepth 65536 in
theorem w_c10 : (Jvm.Cond.code ({ cls := "com/example/trellis/trellis/IntTable", name := "containsKey", desc := "(I)Z" } : Jvm.MethodName) prog_7_method_3_code (2 : Nat) (Option.some Jvm.ClassFile.FieldType.boolean)).before args0 about1 = true := code_word (m := ⟨9, 2⟩) (meth := k9m2) (c := k9c2) (by decide +kernel) rfl rfl rfl (by decide +kernel)
set_option maxRecDepth 65536 in
theorem w_c11 : (Jvm.Cond.code ({ cls := "com/example/trellis/trellis/IntTablePutPinLaw", name := "same", desc := "(Ljava/lang/Integer;Ljava/lang/Integer;)Z" } : Jvm.MethodName) method_4_code (2 : Nat) (Option.some Jvm.ClassFile.FieldType.boolean)).before args0 about1 = true := code_word (m := ⟨1, 3⟩) (meth := k1m3) (c := k1c3) (by decide +kernel) rfl rfl rfl (by decide +kernel)
set_option maxRecDepth 65536 in
theorem w_c12 : (Jvm.Cond.code ({ cls := "java/lang/Integer", name := "intValue", desc := "()I" } : Jvm.MethodName) jdk_33_method_27_code (1 : Nat) (Option.some Jvm.ClassFile.FieldType.int)).before args0 about1 = true := code_word (m := ⟨7, 2⟩) (meth := k7m2) (c := k7c2) (by decide +kernel) rfl rfl rfl (by decide +kernel)
set_option maxRecDepth 65536 in
theorem w_c13 : (Jvm.Cond.code ({ cls := "com/example/trellis/trellis/IntTable", name := "grow", desc := "()V" } : Jvm.MethodName) prog_7_method_6_code (6 : Nat) (Option.none : Option Jvm.ClassFile.FieldType)).before args0 about1 = true := code_word (m := ⟨9, 5⟩) (meth := k9m5) (c := k9c5) (by decide +kernel) rfl rfl rfl (by decide +kernel)
def codes1 : List Jvm.Cond := [Jvm.Cond.code x code maxLocals ret, Jvm.Cond.code ({ cls := "com/example/trellis/trellis/IntTablePutPinLaw", name := "val", desc := "(II)Ljava/lang/Integer;" } : Jvm.MethodName) method_3_code (2 : Nat) (Option.some (Jvm.ClassFile.FieldType.object "java/lang/Integer")), Jvm.Cond.code ({ cls := "java/lang/Integer", name := "valueOf", desc := "(I)Ljava/lang/Integer;" } : Jvm.MethodName) jdk_33_method_22_code (1 : Nat) (Option.some (Jvm.ClassFile.FieldType.object "java/lang/Integer")), Jvm.Cond.code ({ cls := "java/lang/Integer", name := "<init>", desc := "(I)V" } : Jvm.MethodName) jdk_33_method_23_code (2 : Nat) (Option.none : Option Jvm.ClassFile.FieldType), Jvm.Cond.code ({ cls := "java/lang/Number", name := "<init>", desc := "()V" } : Jvm.MethodName) jdk_18_method_1_code (1 : Nat) (Option.none : Option Jvm.ClassFile.FieldType), Jvm.Cond.code ({ cls := "java/lang/Object", name := "<init>", desc := "()V" } : Jvm.MethodName) object_method_1_code (1 : Nat) (Option.none : Option Jvm.ClassFile.FieldType), Jvm.Cond.code ({ cls := "com/example/trellis/trellis/IntTable", name := "<init>", desc := "()V" } : Jvm.MethodName) prog_7_method_1_code (1 : Nat) (Option.none : Option Jvm.ClassFile.FieldType), Jvm.Cond.code ({ cls := "com/example/trellis/trellis/IntTable", name := "put", desc := "(ILjava/lang/Object;)V" } : Jvm.MethodName) prog_7_method_4_code (4 : Nat) (Option.none : Option Jvm.ClassFile.FieldType), Jvm.Cond.code ({ cls := "com/example/trellis/trellis/IntTable", name := "slot", desc := "(I)I" } : Jvm.MethodName) prog_7_method_5_code (5 : Nat) (Option.some Jvm.ClassFile.FieldType.int), Jvm.Cond.code ({ cls := "com/example/trellis/trellis/IntTable", name := "get", desc := "(I)Ljava/lang/Object;" } : Jvm.MethodName) prog_7_method_2_code (3 : Nat) (Option.some (Jvm.ClassFile.FieldType.object "java/lang/Object")), Jvm.Cond.code ({ cls := "com/example/trellis/trellis/IntTable", name := "containsKey", desc := "(I)Z" } : Jvm.MethodName) prog_7_method_3_code (2 : Nat) (Option.some Jvm.ClassFile.FieldType.boolean), Jvm.Cond.code ({ cls := "com/example/trellis/trellis/IntTablePutPinLaw", name := "same", desc := "(Ljava/lang/Integer;Ljava/lang/Integer;)Z" } : Jvm.MethodName) method_4_code (2 : Nat) (Option.some Jvm.ClassFile.FieldType.boolean), Jvm.Cond.code ({ cls := "java/lang/Integer", name := "intValue", desc := "()I" } : Jvm.MethodName) jdk_33_method_27_code (1 : Nat) (Option.some Jvm.ClassFile.FieldType.int), Jvm.Cond.code ({ cls := "com/example/trellis/trellis/IntTable", name := "grow", desc := "()V" } : Jvm.MethodName) prog_7_method_6_code (6 : Nat) (Option.none : Option Jvm.ClassFile.FieldType)]
set_option maxRecDepth 65536 in
theorem codes_eq : words1.filter isCode = codes1 := rfl
theorem w_codes : ∀ c ∈ words1.filter isCode, c.before args0 about1 = true := by
  rw [codes_eq]
  intro c hc
  simp only [codes1, List.mem_cons, List.not_mem_nil, or_false] at hc
  rcases hc with rfl | rfl | rfl | rfl | rfl | rfl | rfl | rfl | rfl | rfl | rfl | rfl | rfl | rfl
  · exact w_c0
  · exact w_c1
  · exact w_c2
  · exact w_c3
  · exact w_c4
  · exact w_c5
  · exact w_c6
  · exact w_c7
  · exact w_c8
  · exact w_c9
  · exact w_c10
  · exact w_c11
  · exact w_c12
  · exact w_c13
set_option maxRecDepth 65536 in
theorem w_t1 : (words1.take 24).all (fun c => isCode c || c.before args0 about1) = true := by decide +kernel
set_option maxRecDepth 65536 in
theorem w_t2 : ((words1.drop 24).take 24).all (fun c => isCode c || c.before args0 about1) = true := by decide +kernel
set_option maxRecDepth 65536 in
theorem w_t3 : (((words1.drop 24).drop 24).take 24).all (fun c => isCode c || c.before args0 about1) = true := by decide +kernel
set_option maxRecDepth 65536 in
theorem w_t4 : (((words1.drop 24).drop 24).drop 24).all (fun c => isCode c || c.before args0 about1) = true := by decide +kernel
theorem w_tables : (allAtoms (Jvm.Cond.code x code maxLocals ret :: tables_1)).before args0 about1 = true := by
  rw [allAtoms_all]
  show words1.all (fun c => c.before args0 about1) = true
  refine all_split ?_ w_codes
  rw [← List.take_append_drop 24 words1, List.all_append, w_t1, ← List.take_append_drop 24 (words1.drop 24), List.all_append, w_t2, ← List.take_append_drop 24 ((words1.drop 24).drop 24), List.all_append, w_t3, w_t4]
  rfl
set_option maxRecDepth 65536 in
theorem w_rest : rest_1_c.before args0 about1 = true := by decide +kernel
set_option maxRecDepth 65536 in
theorem w_case : (Jvm.Cond.and given_1 narrow_1).before args0 about1 = true := by decide +kernel
theorem w_applies : (headSpec (Jvm.Cond.code x code maxLocals ret :: tables_1) room_1).applies x e0.platform about1 = true :=
  (Spec.applies_iff w_frames).mpr ⟨w_running, w_runnable, w_alone, w_named, w_hears, w_ripe, w_room, w_tables⟩
theorem atStart : AtStart classFile x code maxLocals ret World_1 tables_1 room_1 Calls_1 rest_1 Pre_1 launch0 p0 e0 about1 theMethod args0 below0 :=
  ⟨lists_1, trivial, launch0.admits_env _ _ _, launch0.least_env, fairChoices_fair.cas, fairChoices_fair.clock, w_frames, w_args, w_heap, w_applies, trivial, w_rest, w_case⟩
end start1
theorem witness_1 : WitnessClaimed_1 := ⟨start1.p0, start1.e0, start1.about1, start1.theMethod, start1.args0, start1.below0, start1.atStart⟩
end Jvm.Pilot.@@N@@
