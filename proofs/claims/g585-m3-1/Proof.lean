import JvmDerived
import JvmDerived.Pilot.@@N@@Statement
import JvmDerived.Pilot.@@N@@Code
set_option linter.unusedVariables false
set_option linter.unusedSimpArgs false
namespace Jvm.Own
open Sem ClassFile Op Lib Jvm.Stand Jvm.Free Jvm.LawKit Jvm.RoadKit
/-- what of a walk never changes: program, environment, the invocation's state, method, arguments, frames below, method, code -/
abbrev Ctx : Type := Program × Env × State × MethodId × Array Value × List Frame × Method × Code × (Outcome → State → List Loc → Nat → Nat → Prop)
abbrev Ctx.p (K : Ctx) : Program := K.1
abbrev Ctx.e (K : Ctx) : Env := K.2.1
abbrev Ctx.s (K : Ctx) : State := K.2.2.1
abbrev Ctx.m (K : Ctx) : MethodId := K.2.2.2.1
abbrev Ctx.args (K : Ctx) : Array Value := K.2.2.2.2.1
abbrev Ctx.below (K : Ctx) : List Frame := K.2.2.2.2.2.1
abbrev Ctx.meth (K : Ctx) : Method := K.2.2.2.2.2.2.1
abbrev Ctx.c (K : Ctx) : Code := K.2.2.2.2.2.2.2.1
abbrev Ctx.F (K : Ctx) : Outcome → State → List Loc → Nat → Nat → Prop := K.2.2.2.2.2.2.2.2
/-- the run from S comes to the end of the invocation, in G -/
def Ends (K : Ctx) (S : State) (G : Outcome → State → Prop) : Prop := ∃ s₂ o, Steps K.p.tables K.e K.below S s₂ ∧ s₂.status = .running ∧ Ended s₂ K.below o ∧ G o s₂
theorem Ends.step {K : Ctx} {S S' : State} {G : Outcome → State → Prop} (f : ∀ t, Steps K.p.tables K.e K.below S' t → Steps K.p.tables K.e K.below S t) (h : Ends K S' G) : Ends K S G := by
  obtain ⟨a, b, c, d⟩ := h
  exact ⟨a, b, f _ c, d⟩
/-- from every state that stands in this walk with the heap h, cc cells and ss slots made, the frame (pc, ls, st) runs to a return in Q -/
def W (l : Launch) (Z : State) (R : Room) (K : Ctx) (Q : Option Value → Heap → Prop) (h : Heap) (cc ss pc : Nat) (ls : Array Slot) (st : List Value) : Prop :=
  ∀ (T : State) (L : List Loc), Stand K.p l K.e R K.s K.m K.args K.below K.meth K.c T L cc ss → Fr Z.heap.size L → T.heap = h →
    Ends K (T.setTop (mkF K.m pc ls st)) (fun o U => ∃ v L, o = .returned v ∧ (Q v U.heap ∧ Fr Z.heap.size L) ∧ K.F o U L R.cells R.slots)
def Ok (Z : State) (K : Ctx) (y : MethodName) (code : ByteArray) (maxL : Nat) (ret : Option FieldType) : Prop :=
  K.p.tables.exec = Jvm.exec ∧ Z.Warmed39 K.s.vm ∧ K.c.code = code ∧ K.c.maxLocals = maxL ∧ K.s.vm.findClass y.cls = some K.m.cls ∧ K.meth.sig.returnType = ret ∧ K.meth.name = y.name ∧ K.meth.locks = false ∧ ∀ o U L c n, FrameEnd K.s o U L c n → K.F o U L c n
/-- a callee's contract: at the heap h0, with the arguments as, it returns in Q -/
def Con (l : Launch) (Z : State) (y : MethodName) (code : ByteArray) (maxL : Nat) (ret : Option FieldType) (rm : Room) (as : Array Value) (h0 : Heap) (Q : Option Value → Heap → Prop) : Prop :=
  ∀ ws : List Jvm.Cond, MetFree l y (head1 (Jvm.Cond.code y code maxL ret :: ws) rm) (fun a U => a = as ∧ Z.Warmed39 U.vm ∧ U.heap = h0) (fun _ _ _ _ _ => True) (fun _ U o U' => ∃ v L, o = .returned v ∧ (Q v U'.heap ∧ Fr Z.heap.size L) ∧ FrameEnd U o U' L rm.cells rm.slots)
def cdT : ClassFile.Cond → Int32 → Int32 → Prop
  | .eq, x, y => x = y
  | .ne, x, y => ¬ (x = y)
  | .lt, x, y => x < y
  | .ge, x, y => ¬ (x < y)
  | .gt, x, y => y < x
  | .le, x, y => ¬ (y < x)
def cdF : ClassFile.Cond → Int32 → Int32 → Prop
  | .eq, x, y => ¬ (x = y)
  | .ne, x, y => x = y
  | .lt, x, y => ¬ (x < y)
  | .ge, x, y => x < y
  | .gt, x, y => ¬ (y < x)
  | .le, x, y => y < x
theorem cd_t {cd : ClassFile.Cond} {x y : Int32} (h : cdT cd x y) : if_icmp.holds cd x y = true := by
  cases cd
  · exact (teq h).1
  · exact (feq h).2
  · exact (tlt h).1
  · exact (flt h).2.1
  · exact (tlt h).2.2.1
  · exact (flt h).2.2.2
theorem cd_f {cd : ClassFile.Cond} {x y : Int32} (h : cdF cd x y) : if_icmp.holds cd x y = false := by
  cases cd
  · exact (feq h).1
  · exact (teq h).2
  · exact (flt h).1
  · exact (tlt h).2.1
  · exact (flt h).2.2.1
  · exact (tlt h).2.2.2
theorem cd_or (cd : ClassFile.Cond) (x y : Int32) : cdT cd x y ∨ cdF cd x y := by
  cases cd
  · exact Classical.em _
  · exact (Classical.em _).symm
  · exact Classical.em _
  · exact (Classical.em _).symm
  · exact Classical.em _
  · exact (Classical.em _).symm
section Walk
variable {l : Launch} {Z : State} {R : Room} {K : Ctx} {Q : Option Value → Heap → Prop} {h : Heap} {cc ss pc : Nat} {ls : Array Slot} {st : List Value} {y : MethodName} {code : ByteArray} {maxL : Nat} {ret : Option FieldType} {a0 : Array Value} {ts : List Jvm.Cond}
theorem Con.of {rm : Room} {as : Array Value} {h0 : Heap} (hp : plainFor y = true) (ls : Array Slot) (hf : ∀ m, entryFrame m as maxL = mkF m 0 ls []) (hW : ∀ K : Ctx, Ok Z K y code maxL ret → W l Z rm K Q h0 0 0 0 ls []) : Con l Z y code maxL ret rm as h0 Q := by
  intro ws
  refine MetFree.of_bodySF hp hisR ?_
  intro p e s m args below meth c s₁ Bd hml0 hP hK
  obtain ⟨rfl, hZ, hh⟩ := hP
  have e0 : s₁.heap = h0 := by rw [← hh, Bd.state]; rfl
  have X0 : Stand p l e rm s m args below meth c s₁ [] 0 0 := Stand.of_body Bd
  rw [hf]
  exact hW (p, e, s, m, args, below, meth, c, FrameEnd s) ⟨Bd.exec, hZ, Bd.bytes, hml0, findClass_of_methodNamed Bd.named, Bd.returns, (name_of_methodNamed Bd.named Bd.method).1, Bd.notSynchronized, fun _ _ _ _ _ q => q⟩ s₁ [] X0 (Fr.nil _) e0
theorem W.more {cc' ss' : Nat} (hc : cc ≤ cc') (hs : ss ≤ ss') (H : W l Z R K Q h cc' ss' pc ls st) : W l Z R K Q h cc ss pc ls st := fun T L X N e => H T L (X.more hc hs) N e

theorem W.iload (ok : Ok Z K y code maxL ret) {k : Nat} {v : Int32} (hd : decode code pc = .ok (.iload k, 2)) (pc' : Nat) (hl : ls[k]? = some (.val (.int v))) (H : W l Z R K Q h cc ss pc' ls (.int v :: st)) (hp : pc + 2 = pc' := by rfl) : W l Z R K Q h cc ss pc ls (st) := by
  subst hp
  exact fun T L X N e => Ends.step (fun t k => XS.iload X.here ok.1 rfl (hb ok.2.2.1 hd) hl k) (H T L X N e)
theorem W.lload (ok : Ok Z K y code maxL ret) {k : Nat} {v : Int64} (hd : decode code pc = .ok (.lload k, 2)) (pc' : Nat) (hl : ls[k]? = some (.val (.long v))) (H : W l Z R K Q h cc ss pc' ls (.long v :: st)) (hp : pc + 2 = pc' := by rfl) : W l Z R K Q h cc ss pc ls (st) := by
  subst hp
  exact fun T L X N e => Ends.step (fun t k => XS.lload X.here ok.1 rfl (hb ok.2.2.1 hd) hl k) (H T L X N e)
theorem W.aload (ok : Ok Z K y code maxL ret) {k : Nat} {v : Value} (hd : decode code pc = .ok (.aload k, 2)) (pc' : Nat) (hl : ls[k]? = some (.val v)) (hv : v.isRef = true) (H : W l Z R K Q h cc ss pc' ls (v :: st)) (hp : pc + 2 = pc' := by rfl) : W l Z R K Q h cc ss pc ls (st) := by
  subst hp
  exact fun T L X N e => Ends.step (fun t k => XS.aload X.here ok.1 rfl (hb ok.2.2.1 hd) hl hv k) (H T L X N e)
theorem W.istore (ok : Ok Z K y code maxL ret) {k : Nat} {v : Int32} (hd : decode code pc = .ok (.istore k, 2)) (pc' : Nat) (ls' : Array Slot) (hl : storeLocals ls k (.int v) = some ls') (H : W l Z R K Q h cc ss pc' ls' (st)) (hp : pc + 2 = pc' := by rfl) : W l Z R K Q h cc ss pc ls (.int v :: st) := by
  subst hp
  exact fun T L X N e => Ends.step (fun t k => XS.istore X.here ok.1 rfl (hb ok.2.2.1 hd) rfl hl k) (H T L X N e)
theorem W.lstore (ok : Ok Z K y code maxL ret) {k : Nat} {v : Int64} (hd : decode code pc = .ok (.lstore k, 2)) (pc' : Nat) (ls' : Array Slot) (hl : storeLocals ls k (.long v) = some ls') (H : W l Z R K Q h cc ss pc' ls' (st)) (hp : pc + 2 = pc' := by rfl) : W l Z R K Q h cc ss pc ls (.long v :: st) := by
  subst hp
  exact fun T L X N e => Ends.step (fun t k => XS.lstore X.here ok.1 rfl (hb ok.2.2.1 hd) rfl hl k) (H T L X N e)
theorem W.astore (ok : Ok Z K y code maxL ret) {k : Nat} {v : Value} (hd : decode code pc = .ok (.astore k, 2)) (pc' : Nat) (ls' : Array Slot) (hv : v.isRef = true) (hl : storeLocals ls k v = some ls') (H : W l Z R K Q h cc ss pc' ls' (st)) (hp : pc + 2 = pc' := by rfl) : W l Z R K Q h cc ss pc ls (v :: st) := by
  subst hp
  exact fun T L X N e => Ends.step (fun t k => XS.astore X.here ok.1 rfl (hb ok.2.2.1 hd) rfl hv hl k) (H T L X N e)
theorem W.iloadN (ok : Ok Z K y code maxL ret) {k : Fin 4} {v : Int32} (hd : decode code pc = .ok (.iload_n k, 1)) (pc' : Nat) (hl : ls[k.val]? = some (.val (.int v))) (H : W l Z R K Q h cc ss pc' ls (.int v :: st)) (hp : pc + 1 = pc' := by rfl) : W l Z R K Q h cc ss pc ls (st) := by
  subst hp
  exact fun T L X N e => Ends.step (fun t k => XS.iloadN X.here ok.1 rfl (hb ok.2.2.1 hd) hl k) (H T L X N e)
theorem W.lloadN (ok : Ok Z K y code maxL ret) {k : Fin 4} {v : Int64} (hd : decode code pc = .ok (.lload_n k, 1)) (pc' : Nat) (hl : ls[k.val]? = some (.val (.long v))) (H : W l Z R K Q h cc ss pc' ls (.long v :: st)) (hp : pc + 1 = pc' := by rfl) : W l Z R K Q h cc ss pc ls (st) := by
  subst hp
  exact fun T L X N e => Ends.step (fun t k => XS.lloadN X.here ok.1 rfl (hb ok.2.2.1 hd) hl k) (H T L X N e)
theorem W.aloadN (ok : Ok Z K y code maxL ret) {k : Fin 4} {v : Value} (hd : decode code pc = .ok (.aload_n k, 1)) (pc' : Nat) (hl : ls[k.val]? = some (.val v)) (hv : v.isRef = true) (H : W l Z R K Q h cc ss pc' ls (v :: st)) (hp : pc + 1 = pc' := by rfl) : W l Z R K Q h cc ss pc ls (st) := by
  subst hp
  exact fun T L X N e => Ends.step (fun t k => XS.aloadN X.here ok.1 rfl (hb ok.2.2.1 hd) hl hv k) (H T L X N e)
theorem W.istoreN (ok : Ok Z K y code maxL ret) {k : Fin 4} {v : Int32} (hd : decode code pc = .ok (.istore_n k, 1)) (pc' : Nat) (ls' : Array Slot) (hl : storeLocals ls k.val (.int v) = some ls') (H : W l Z R K Q h cc ss pc' ls' (st)) (hp : pc + 1 = pc' := by rfl) : W l Z R K Q h cc ss pc ls (.int v :: st) := by
  subst hp
  exact fun T L X N e => Ends.step (fun t k => XS.istoreN X.here ok.1 rfl (hb ok.2.2.1 hd) rfl hl k) (H T L X N e)
theorem W.lstoreN (ok : Ok Z K y code maxL ret) {k : Fin 4} {v : Int64} (hd : decode code pc = .ok (.lstore_n k, 1)) (pc' : Nat) (ls' : Array Slot) (hl : storeLocals ls k.val (.long v) = some ls') (H : W l Z R K Q h cc ss pc' ls' (st)) (hp : pc + 1 = pc' := by rfl) : W l Z R K Q h cc ss pc ls (.long v :: st) := by
  subst hp
  exact fun T L X N e => Ends.step (fun t k => XS.lstoreN X.here ok.1 rfl (hb ok.2.2.1 hd) rfl hl k) (H T L X N e)
theorem W.astoreN (ok : Ok Z K y code maxL ret) {k : Fin 4} {v : Value} (hd : decode code pc = .ok (.astore_n k, 1)) (pc' : Nat) (ls' : Array Slot) (hv : v.isRef = true) (hl : storeLocals ls k.val v = some ls') (H : W l Z R K Q h cc ss pc' ls' (st)) (hp : pc + 1 = pc' := by rfl) : W l Z R K Q h cc ss pc ls (v :: st) := by
  subst hp
  exact fun T L X N e => Ends.step (fun t k => XS.astoreN X.here ok.1 rfl (hb ok.2.2.1 hd) rfl hv hl k) (H T L X N e)
theorem W.iconst (ok : Ok Z K y code maxL ret) {i : Int} (hd : decode code pc = .ok (.iconst i, 1)) (pc' : Nat) (v : Int32) (hv : Int32.ofInt i = v) (H : W l Z R K Q h cc ss pc' ls (.int v :: st)) (hp : pc + 1 = pc' := by rfl) : W l Z R K Q h cc ss pc ls (st) := by
  subst hp
  subst hv
  exact fun T L X N e => Ends.step (fun t k => XS.iconst X.here ok.1 rfl (hb ok.2.2.1 hd)  k) (H T L X N e)
theorem W.bipush (ok : Ok Z K y code maxL ret) {i : Int} (hd : decode code pc = .ok (.bipush i, 2)) (pc' : Nat) (v : Int32) (hv : (Int8.ofInt i).toInt32 = v) (H : W l Z R K Q h cc ss pc' ls (.int v :: st)) (hp : pc + 2 = pc' := by rfl) : W l Z R K Q h cc ss pc ls (st) := by
  subst hp
  subst hv
  exact fun T L X N e => Ends.step (fun t k => XS.bipush X.here ok.1 rfl (hb ok.2.2.1 hd)  k) (H T L X N e)
theorem W.sipush (ok : Ok Z K y code maxL ret) {i : Int} (hd : decode code pc = .ok (.sipush i, 3)) (pc' : Nat) (v : Int32) (hv : (Int16.ofInt i).toInt32 = v) (H : W l Z R K Q h cc ss pc' ls (.int v :: st)) (hp : pc + 3 = pc' := by rfl) : W l Z R K Q h cc ss pc ls (st) := by
  subst hp
  subst hv
  exact fun T L X N e => Ends.step (fun t k => XS.sipush X.here ok.1 rfl (hb ok.2.2.1 hd)  k) (H T L X N e)
theorem W.lconst (ok : Ok Z K y code maxL ret) {i : Fin 2} (hd : decode code pc = .ok (.lconst i, 1)) (pc' : Nat) (v : Int64) (hv : Int64.ofNat i = v) (H : W l Z R K Q h cc ss pc' ls (.long v :: st)) (hp : pc + 1 = pc' := by rfl) : W l Z R K Q h cc ss pc ls (st) := by
  subst hp
  subst hv
  exact fun T L X N e => Ends.step (fun t k => XS.lconst X.here ok.1 rfl (hb ok.2.2.1 hd)  k) (H T L X N e)
theorem W.aconstNull (ok : Ok Z K y code maxL ret)  (hd : decode code pc = .ok (.aconst_null, 1)) (pc' : Nat) (H : W l Z R K Q h cc ss pc' ls (.null :: st)) (hp : pc + 1 = pc' := by rfl) : W l Z R K Q h cc ss pc ls (st) := by
  subst hp
  exact fun T L X N e => Ends.step (fun t k => XS.aconstNull X.here ok.1 rfl (hb ok.2.2.1 hd)  k) (H T L X N e)
theorem W.iadd (ok : Ok Z K y code maxL ret) {x z : Int32} (hd : decode code pc = .ok (.iadd, 1)) (pc' : Nat) (H : W l Z R K Q h cc ss pc' ls (.int (x + z) :: st)) (hp : pc + 1 = pc' := by rfl) : W l Z R K Q h cc ss pc ls (.int z :: .int x :: st) := by
  subst hp
  exact fun T L X N e => Ends.step (fun t k => XS.iadd X.here ok.1 rfl (hb ok.2.2.1 hd) rfl k) (H T L X N e)
theorem W.iaddV (ok : Ok Z K y code maxL ret) {x z : Int32} (hd : decode code pc = .ok (.iadd, 1)) (pc' : Nat) (v : Int32) (hv : x + z = v) (H : W l Z R K Q h cc ss pc' ls (.int v :: st)) (hp : pc + 1 = pc' := by rfl) : W l Z R K Q h cc ss pc ls (.int z :: .int x :: st) := by
  subst hp
  subst hv
  exact fun T L X N e => Ends.step (fun t k => XS.iadd X.here ok.1 rfl (hb ok.2.2.1 hd) rfl k) (H T L X N e)
theorem W.isub (ok : Ok Z K y code maxL ret) {x z : Int32} (hd : decode code pc = .ok (.isub, 1)) (pc' : Nat) (H : W l Z R K Q h cc ss pc' ls (.int (x - z) :: st)) (hp : pc + 1 = pc' := by rfl) : W l Z R K Q h cc ss pc ls (.int z :: .int x :: st) := by
  subst hp
  exact fun T L X N e => Ends.step (fun t k => XS.isub X.here ok.1 rfl (hb ok.2.2.1 hd) rfl k) (H T L X N e)
theorem W.isubV (ok : Ok Z K y code maxL ret) {x z : Int32} (hd : decode code pc = .ok (.isub, 1)) (pc' : Nat) (v : Int32) (hv : x - z = v) (H : W l Z R K Q h cc ss pc' ls (.int v :: st)) (hp : pc + 1 = pc' := by rfl) : W l Z R K Q h cc ss pc ls (.int z :: .int x :: st) := by
  subst hp
  subst hv
  exact fun T L X N e => Ends.step (fun t k => XS.isub X.here ok.1 rfl (hb ok.2.2.1 hd) rfl k) (H T L X N e)
theorem W.imul (ok : Ok Z K y code maxL ret) {x z : Int32} (hd : decode code pc = .ok (.imul, 1)) (pc' : Nat) (H : W l Z R K Q h cc ss pc' ls (.int (x * z) :: st)) (hp : pc + 1 = pc' := by rfl) : W l Z R K Q h cc ss pc ls (.int z :: .int x :: st) := by
  subst hp
  exact fun T L X N e => Ends.step (fun t k => XS.imul X.here ok.1 rfl (hb ok.2.2.1 hd) rfl k) (H T L X N e)
theorem W.imulV (ok : Ok Z K y code maxL ret) {x z : Int32} (hd : decode code pc = .ok (.imul, 1)) (pc' : Nat) (v : Int32) (hv : x * z = v) (H : W l Z R K Q h cc ss pc' ls (.int v :: st)) (hp : pc + 1 = pc' := by rfl) : W l Z R K Q h cc ss pc ls (.int z :: .int x :: st) := by
  subst hp
  subst hv
  exact fun T L X N e => Ends.step (fun t k => XS.imul X.here ok.1 rfl (hb ok.2.2.1 hd) rfl k) (H T L X N e)
theorem W.iand (ok : Ok Z K y code maxL ret) {x z : Int32} (hd : decode code pc = .ok (.iand, 1)) (pc' : Nat) (H : W l Z R K Q h cc ss pc' ls (.int (x &&& z) :: st)) (hp : pc + 1 = pc' := by rfl) : W l Z R K Q h cc ss pc ls (.int z :: .int x :: st) := by
  subst hp
  exact fun T L X N e => Ends.step (fun t k => XS.iand X.here ok.1 rfl (hb ok.2.2.1 hd) rfl k) (H T L X N e)
theorem W.iandV (ok : Ok Z K y code maxL ret) {x z : Int32} (hd : decode code pc = .ok (.iand, 1)) (pc' : Nat) (v : Int32) (hv : x &&& z = v) (H : W l Z R K Q h cc ss pc' ls (.int v :: st)) (hp : pc + 1 = pc' := by rfl) : W l Z R K Q h cc ss pc ls (.int z :: .int x :: st) := by
  subst hp
  subst hv
  exact fun T L X N e => Ends.step (fun t k => XS.iand X.here ok.1 rfl (hb ok.2.2.1 hd) rfl k) (H T L X N e)
theorem W.ior (ok : Ok Z K y code maxL ret) {x z : Int32} (hd : decode code pc = .ok (.ior, 1)) (pc' : Nat) (H : W l Z R K Q h cc ss pc' ls (.int (x ||| z) :: st)) (hp : pc + 1 = pc' := by rfl) : W l Z R K Q h cc ss pc ls (.int z :: .int x :: st) := by
  subst hp
  exact fun T L X N e => Ends.step (fun t k => XS.ior X.here ok.1 rfl (hb ok.2.2.1 hd) rfl k) (H T L X N e)
theorem W.iorV (ok : Ok Z K y code maxL ret) {x z : Int32} (hd : decode code pc = .ok (.ior, 1)) (pc' : Nat) (v : Int32) (hv : x ||| z = v) (H : W l Z R K Q h cc ss pc' ls (.int v :: st)) (hp : pc + 1 = pc' := by rfl) : W l Z R K Q h cc ss pc ls (.int z :: .int x :: st) := by
  subst hp
  subst hv
  exact fun T L X N e => Ends.step (fun t k => XS.ior X.here ok.1 rfl (hb ok.2.2.1 hd) rfl k) (H T L X N e)
theorem W.ixor (ok : Ok Z K y code maxL ret) {x z : Int32} (hd : decode code pc = .ok (.ixor, 1)) (pc' : Nat) (H : W l Z R K Q h cc ss pc' ls (.int (x ^^^ z) :: st)) (hp : pc + 1 = pc' := by rfl) : W l Z R K Q h cc ss pc ls (.int z :: .int x :: st) := by
  subst hp
  exact fun T L X N e => Ends.step (fun t k => XS.ixor X.here ok.1 rfl (hb ok.2.2.1 hd) rfl k) (H T L X N e)
theorem W.ixorV (ok : Ok Z K y code maxL ret) {x z : Int32} (hd : decode code pc = .ok (.ixor, 1)) (pc' : Nat) (v : Int32) (hv : x ^^^ z = v) (H : W l Z R K Q h cc ss pc' ls (.int v :: st)) (hp : pc + 1 = pc' := by rfl) : W l Z R K Q h cc ss pc ls (.int z :: .int x :: st) := by
  subst hp
  subst hv
  exact fun T L X N e => Ends.step (fun t k => XS.ixor X.here ok.1 rfl (hb ok.2.2.1 hd) rfl k) (H T L X N e)
theorem W.ishl (ok : Ok Z K y code maxL ret) {x z : Int32} (hd : decode code pc = .ok (.ishl, 1)) (pc' : Nat) (H : W l Z R K Q h cc ss pc' ls (.int (x <<< (z &&& 31)) :: st)) (hp : pc + 1 = pc' := by rfl) : W l Z R K Q h cc ss pc ls (.int z :: .int x :: st) := by
  subst hp
  exact fun T L X N e => Ends.step (fun t k => XS.ishl X.here ok.1 rfl (hb ok.2.2.1 hd) rfl k) (H T L X N e)
theorem W.ishlV (ok : Ok Z K y code maxL ret) {x z : Int32} (hd : decode code pc = .ok (.ishl, 1)) (pc' : Nat) (v : Int32) (hv : x <<< (z &&& 31) = v) (H : W l Z R K Q h cc ss pc' ls (.int v :: st)) (hp : pc + 1 = pc' := by rfl) : W l Z R K Q h cc ss pc ls (.int z :: .int x :: st) := by
  subst hp
  subst hv
  exact fun T L X N e => Ends.step (fun t k => XS.ishl X.here ok.1 rfl (hb ok.2.2.1 hd) rfl k) (H T L X N e)
theorem W.ishr (ok : Ok Z K y code maxL ret) {x z : Int32} (hd : decode code pc = .ok (.ishr, 1)) (pc' : Nat) (H : W l Z R K Q h cc ss pc' ls (.int (x >>> (z &&& 31)) :: st)) (hp : pc + 1 = pc' := by rfl) : W l Z R K Q h cc ss pc ls (.int z :: .int x :: st) := by
  subst hp
  exact fun T L X N e => Ends.step (fun t k => XS.ishr X.here ok.1 rfl (hb ok.2.2.1 hd) rfl k) (H T L X N e)
theorem W.ishrV (ok : Ok Z K y code maxL ret) {x z : Int32} (hd : decode code pc = .ok (.ishr, 1)) (pc' : Nat) (v : Int32) (hv : x >>> (z &&& 31) = v) (H : W l Z R K Q h cc ss pc' ls (.int v :: st)) (hp : pc + 1 = pc' := by rfl) : W l Z R K Q h cc ss pc ls (.int z :: .int x :: st) := by
  subst hp
  subst hv
  exact fun T L X N e => Ends.step (fun t k => XS.ishr X.here ok.1 rfl (hb ok.2.2.1 hd) rfl k) (H T L X N e)
theorem W.iushr (ok : Ok Z K y code maxL ret) {x z : Int32} (hd : decode code pc = .ok (.iushr, 1)) (pc' : Nat) (H : W l Z R K Q h cc ss pc' ls (.int ((x.toUInt32 >>> (z &&& 31).toUInt32).toInt32) :: st)) (hp : pc + 1 = pc' := by rfl) : W l Z R K Q h cc ss pc ls (.int z :: .int x :: st) := by
  subst hp
  exact fun T L X N e => Ends.step (fun t k => XS.iushr X.here ok.1 rfl (hb ok.2.2.1 hd) rfl k) (H T L X N e)
theorem W.iushrV (ok : Ok Z K y code maxL ret) {x z : Int32} (hd : decode code pc = .ok (.iushr, 1)) (pc' : Nat) (v : Int32) (hv : (x.toUInt32 >>> (z &&& 31).toUInt32).toInt32 = v) (H : W l Z R K Q h cc ss pc' ls (.int v :: st)) (hp : pc + 1 = pc' := by rfl) : W l Z R K Q h cc ss pc ls (.int z :: .int x :: st) := by
  subst hp
  subst hv
  exact fun T L X N e => Ends.step (fun t k => XS.iushr X.here ok.1 rfl (hb ok.2.2.1 hd) rfl k) (H T L X N e)
theorem W.ladd (ok : Ok Z K y code maxL ret) {x z : Int64} (hd : decode code pc = .ok (.ladd, 1)) (pc' : Nat) (H : W l Z R K Q h cc ss pc' ls (.long (x + z) :: st)) (hp : pc + 1 = pc' := by rfl) : W l Z R K Q h cc ss pc ls (.long z :: .long x :: st) := by
  subst hp
  exact fun T L X N e => Ends.step (fun t k => XS.ladd X.here ok.1 rfl (hb ok.2.2.1 hd) rfl k) (H T L X N e)
theorem W.lsub (ok : Ok Z K y code maxL ret) {x z : Int64} (hd : decode code pc = .ok (.lsub, 1)) (pc' : Nat) (H : W l Z R K Q h cc ss pc' ls (.long (x - z) :: st)) (hp : pc + 1 = pc' := by rfl) : W l Z R K Q h cc ss pc ls (.long z :: .long x :: st) := by
  subst hp
  exact fun T L X N e => Ends.step (fun t k => XS.lsub X.here ok.1 rfl (hb ok.2.2.1 hd) rfl k) (H T L X N e)
theorem W.lmul (ok : Ok Z K y code maxL ret) {x z : Int64} (hd : decode code pc = .ok (.lmul, 1)) (pc' : Nat) (H : W l Z R K Q h cc ss pc' ls (.long (x * z) :: st)) (hp : pc + 1 = pc' := by rfl) : W l Z R K Q h cc ss pc ls (.long z :: .long x :: st) := by
  subst hp
  exact fun T L X N e => Ends.step (fun t k => XS.lmul X.here ok.1 rfl (hb ok.2.2.1 hd) rfl k) (H T L X N e)
theorem W.land (ok : Ok Z K y code maxL ret) {x z : Int64} (hd : decode code pc = .ok (.land, 1)) (pc' : Nat) (H : W l Z R K Q h cc ss pc' ls (.long (x &&& z) :: st)) (hp : pc + 1 = pc' := by rfl) : W l Z R K Q h cc ss pc ls (.long z :: .long x :: st) := by
  subst hp
  exact fun T L X N e => Ends.step (fun t k => XS.land X.here ok.1 rfl (hb ok.2.2.1 hd) rfl k) (H T L X N e)
theorem W.lor (ok : Ok Z K y code maxL ret) {x z : Int64} (hd : decode code pc = .ok (.lor, 1)) (pc' : Nat) (H : W l Z R K Q h cc ss pc' ls (.long (x ||| z) :: st)) (hp : pc + 1 = pc' := by rfl) : W l Z R K Q h cc ss pc ls (.long z :: .long x :: st) := by
  subst hp
  exact fun T L X N e => Ends.step (fun t k => XS.lor X.here ok.1 rfl (hb ok.2.2.1 hd) rfl k) (H T L X N e)
theorem W.lxor (ok : Ok Z K y code maxL ret) {x z : Int64} (hd : decode code pc = .ok (.lxor, 1)) (pc' : Nat) (H : W l Z R K Q h cc ss pc' ls (.long (x ^^^ z) :: st)) (hp : pc + 1 = pc' := by rfl) : W l Z R K Q h cc ss pc ls (.long z :: .long x :: st) := by
  subst hp
  exact fun T L X N e => Ends.step (fun t k => XS.lxor X.here ok.1 rfl (hb ok.2.2.1 hd) rfl k) (H T L X N e)
theorem W.lshl (ok : Ok Z K y code maxL ret) {x : Int64} {z : Int32} (hd : decode code pc = .ok (.lshl, 1)) (pc' : Nat) (H : W l Z R K Q h cc ss pc' ls (.long (x <<< (z &&& 0x3f).toInt64) :: st)) (hp : pc + 1 = pc' := by rfl) : W l Z R K Q h cc ss pc ls (.int z :: .long x :: st) := by
  subst hp
  exact fun T L X N e => Ends.step (fun t k => XS.lshl X.here ok.1 rfl (hb ok.2.2.1 hd) rfl k) (H T L X N e)
theorem W.lshr (ok : Ok Z K y code maxL ret) {x : Int64} {z : Int32} (hd : decode code pc = .ok (.lshr, 1)) (pc' : Nat) (H : W l Z R K Q h cc ss pc' ls (.long (x >>> (z &&& 0x3f).toInt64) :: st)) (hp : pc + 1 = pc' := by rfl) : W l Z R K Q h cc ss pc ls (.int z :: .long x :: st) := by
  subst hp
  exact fun T L X N e => Ends.step (fun t k => XS.lshr X.here ok.1 rfl (hb ok.2.2.1 hd) rfl k) (H T L X N e)
theorem W.lushr (ok : Ok Z K y code maxL ret) {x : Int64} {z : Int32} (hd : decode code pc = .ok (.lushr, 1)) (pc' : Nat) (H : W l Z R K Q h cc ss pc' ls (.long ((x.toUInt64 >>> (z &&& 0x3f).toInt64.toUInt64).toInt64) :: st)) (hp : pc + 1 = pc' := by rfl) : W l Z R K Q h cc ss pc ls (.int z :: .long x :: st) := by
  subst hp
  exact fun T L X N e => Ends.step (fun t k => XS.lushr X.here ok.1 rfl (hb ok.2.2.1 hd) rfl k) (H T L X N e)
theorem W.idiv (ok : Ok Z K y code maxL ret) {x z : Int32} (hd : decode code pc = .ok (.idiv, 1)) (pc' : Nat) (hz : z ≠ 0) (H : W l Z R K Q h cc ss pc' ls (.int (x / z) :: st)) (hp : pc + 1 = pc' := by rfl) : W l Z R K Q h cc ss pc ls (.int z :: .int x :: st) := by
  subst hp
  exact fun T L X N e => Ends.step (fun t k => XS.idiv X.here ok.1 rfl (hb ok.2.2.1 hd) rfl hz k) (H T L X N e)
theorem W.irem (ok : Ok Z K y code maxL ret) {x z : Int32} (hd : decode code pc = .ok (.irem, 1)) (pc' : Nat) (hz : z ≠ 0) (H : W l Z R K Q h cc ss pc' ls (.int (x % z) :: st)) (hp : pc + 1 = pc' := by rfl) : W l Z R K Q h cc ss pc ls (.int z :: .int x :: st) := by
  subst hp
  exact fun T L X N e => Ends.step (fun t k => iremM X ok.1 rfl (hb ok.2.2.1 hd) rfl hz k) (H T L X N e)
theorem W.ineg (ok : Ok Z K y code maxL ret) {x : Int32} (hd : decode code pc = .ok (.ineg, 1)) (pc' : Nat) (H : W l Z R K Q h cc ss pc' ls (.int (-x) :: st)) (hp : pc + 1 = pc' := by rfl) : W l Z R K Q h cc ss pc ls (.int x :: st) := by
  subst hp
  exact fun T L X N e => Ends.step (fun t k => XS.ineg X.here ok.1 rfl (hb ok.2.2.1 hd) rfl k) (H T L X N e)
theorem W.inegV (ok : Ok Z K y code maxL ret) {x : Int32} (hd : decode code pc = .ok (.ineg, 1)) (pc' : Nat) (v : Int32) (hv : -x = v) (H : W l Z R K Q h cc ss pc' ls (.int v :: st)) (hp : pc + 1 = pc' := by rfl) : W l Z R K Q h cc ss pc ls (.int x :: st) := by
  subst hp
  subst hv
  exact fun T L X N e => Ends.step (fun t k => XS.ineg X.here ok.1 rfl (hb ok.2.2.1 hd) rfl k) (H T L X N e)
theorem W.i2b (ok : Ok Z K y code maxL ret) {x : Int32} (hd : decode code pc = .ok (.i2b, 1)) (pc' : Nat) (H : W l Z R K Q h cc ss pc' ls (.int (x.toInt8.toInt32) :: st)) (hp : pc + 1 = pc' := by rfl) : W l Z R K Q h cc ss pc ls (.int x :: st) := by
  subst hp
  exact fun T L X N e => Ends.step (fun t k => XS.i2b X.here ok.1 rfl (hb ok.2.2.1 hd) rfl k) (H T L X N e)
theorem W.i2bV (ok : Ok Z K y code maxL ret) {x : Int32} (hd : decode code pc = .ok (.i2b, 1)) (pc' : Nat) (v : Int32) (hv : x.toInt8.toInt32 = v) (H : W l Z R K Q h cc ss pc' ls (.int v :: st)) (hp : pc + 1 = pc' := by rfl) : W l Z R K Q h cc ss pc ls (.int x :: st) := by
  subst hp
  subst hv
  exact fun T L X N e => Ends.step (fun t k => XS.i2b X.here ok.1 rfl (hb ok.2.2.1 hd) rfl k) (H T L X N e)
theorem W.i2c (ok : Ok Z K y code maxL ret) {x : Int32} (hd : decode code pc = .ok (.i2c, 1)) (pc' : Nat) (H : W l Z R K Q h cc ss pc' ls (.int (x.toUInt32.toUInt16.toUInt32.toInt32) :: st)) (hp : pc + 1 = pc' := by rfl) : W l Z R K Q h cc ss pc ls (.int x :: st) := by
  subst hp
  exact fun T L X N e => Ends.step (fun t k => XS.i2c X.here ok.1 rfl (hb ok.2.2.1 hd) rfl k) (H T L X N e)
theorem W.i2cV (ok : Ok Z K y code maxL ret) {x : Int32} (hd : decode code pc = .ok (.i2c, 1)) (pc' : Nat) (v : Int32) (hv : x.toUInt32.toUInt16.toUInt32.toInt32 = v) (H : W l Z R K Q h cc ss pc' ls (.int v :: st)) (hp : pc + 1 = pc' := by rfl) : W l Z R K Q h cc ss pc ls (.int x :: st) := by
  subst hp
  subst hv
  exact fun T L X N e => Ends.step (fun t k => XS.i2c X.here ok.1 rfl (hb ok.2.2.1 hd) rfl k) (H T L X N e)
theorem W.i2s (ok : Ok Z K y code maxL ret) {x : Int32} (hd : decode code pc = .ok (.i2s, 1)) (pc' : Nat) (H : W l Z R K Q h cc ss pc' ls (.int (x.toInt16.toInt32) :: st)) (hp : pc + 1 = pc' := by rfl) : W l Z R K Q h cc ss pc ls (.int x :: st) := by
  subst hp
  exact fun T L X N e => Ends.step (fun t k => XS.i2s X.here ok.1 rfl (hb ok.2.2.1 hd) rfl k) (H T L X N e)
theorem W.i2sV (ok : Ok Z K y code maxL ret) {x : Int32} (hd : decode code pc = .ok (.i2s, 1)) (pc' : Nat) (v : Int32) (hv : x.toInt16.toInt32 = v) (H : W l Z R K Q h cc ss pc' ls (.int v :: st)) (hp : pc + 1 = pc' := by rfl) : W l Z R K Q h cc ss pc ls (.int x :: st) := by
  subst hp
  subst hv
  exact fun T L X N e => Ends.step (fun t k => XS.i2s X.here ok.1 rfl (hb ok.2.2.1 hd) rfl k) (H T L X N e)
theorem W.i2l (ok : Ok Z K y code maxL ret) {x : Int32} (hd : decode code pc = .ok (.i2l, 1)) (pc' : Nat) (H : W l Z R K Q h cc ss pc' ls (.long (x.toInt64) :: st)) (hp : pc + 1 = pc' := by rfl) : W l Z R K Q h cc ss pc ls (.int x :: st) := by
  subst hp
  exact fun T L X N e => Ends.step (fun t k => XS.i2l X.here ok.1 rfl (hb ok.2.2.1 hd) rfl k) (H T L X N e)
theorem W.l2i (ok : Ok Z K y code maxL ret) {x : Int64} (hd : decode code pc = .ok (.l2i, 1)) (pc' : Nat) (H : W l Z R K Q h cc ss pc' ls (.int (x.toInt32) :: st)) (hp : pc + 1 = pc' := by rfl) : W l Z R K Q h cc ss pc ls (.long x :: st) := by
  subst hp
  exact fun T L X N e => Ends.step (fun t k => XS.l2i X.here ok.1 rfl (hb ok.2.2.1 hd) rfl k) (H T L X N e)
theorem W.lneg (ok : Ok Z K y code maxL ret) {x : Int64} (hd : decode code pc = .ok (.lneg, 1)) (pc' : Nat) (H : W l Z R K Q h cc ss pc' ls (.long (-x) :: st)) (hp : pc + 1 = pc' := by rfl) : W l Z R K Q h cc ss pc ls (.long x :: st) := by
  subst hp
  exact fun T L X N e => Ends.step (fun t k => XS.lneg X.here ok.1 rfl (hb ok.2.2.1 hd) rfl k) (H T L X N e)
theorem W.iinc (ok : Ok Z K y code maxL ret) {k : Nat} {cst : Int} {x : Int32} (hd : decode code pc = .ok (.iinc k cst, 3)) (pc' : Nat) (v : Int32) (ls' : Array Slot) (hl : ls[k]? = some (.val (.int x))) (hv : x + Int32.ofInt cst = v) (hl' : storeLocals ls k (.int v) = some ls') (H : W l Z R K Q h cc ss pc' ls' (st)) (hp : pc + 3 = pc' := by rfl) : W l Z R K Q h cc ss pc ls (st) := by
  subst hp
  subst hv
  exact fun T L X N e => Ends.step (fun t k => XS.iinc X.here ok.1 rfl (hb ok.2.2.1 hd) hl hl' k) (H T L X N e)
theorem W.dup (ok : Ok Z K y code maxL ret) {v : Value} (hd : decode code pc = .ok (.dup, 1)) (pc' : Nat) (hv : v.category = 1) (H : W l Z R K Q h cc ss pc' ls (v :: v :: st)) (hp : pc + 1 = pc' := by rfl) : W l Z R K Q h cc ss pc ls (v :: st) := by
  subst hp
  exact fun T L X N e => Ends.step (fun t k => XS.dup X.here ok.1 rfl (hb ok.2.2.1 hd) rfl hv k) (H T L X N e)
theorem W.dupX1 (ok : Ok Z K y code maxL ret) {v w : Value} (hd : decode code pc = .ok (.dup_x1, 1)) (pc' : Nat) (hv : v.category = 1) (hw : w.category = 1) (H : W l Z R K Q h cc ss pc' ls (v :: w :: v :: st)) (hp : pc + 1 = pc' := by rfl) : W l Z R K Q h cc ss pc ls (v :: w :: st) := by
  subst hp
  exact fun T L X N e => Ends.step (fun t k => XS.dupX1 X.here ok.1 rfl (hb ok.2.2.1 hd) rfl hv hw k) (H T L X N e)
theorem W.pop (ok : Ok Z K y code maxL ret) {v : Value} (hd : decode code pc = .ok (.pop, 1)) (pc' : Nat) (hv : v.category = 1) (H : W l Z R K Q h cc ss pc' ls (st)) (hp : pc + 1 = pc' := by rfl) : W l Z R K Q h cc ss pc ls (v :: st) := by
  subst hp
  exact fun T L X N e => Ends.step (fun t k => XS.pop X.here ok.1 rfl (hb ok.2.2.1 hd) rfl hv k) (H T L X N e)
theorem W.goto (ok : Ok Z K y code maxL ret) {o : Int} (hd : decode code pc = .ok (.goto o, 3)) (pc' : Nat) (H : W l Z R K Q h cc ss pc' ls st) (ho : 0 ≤ (pc : Int) + o := by decide) (hp : ((pc : Int) + o).toNat = pc' := by decide) : W l Z R K Q h cc ss pc ls st :=
  fun T L X N e => Ends.step (fun t k => XS.goto X.here ok.1 rfl (pc0 := pc) (pc' := pc') rfl (hb ok.2.2.1 hd) ho hp k) (H T L X N e)
theorem W.icmpT (ok : Ok Z K y code maxL ret) {cd : ClassFile.Cond} {x z : Int32} {o : Int} (hd : decode code pc = .ok (.if_icmp cd o, 3)) (pc' : Nat) (hc : cdT cd x z) (H : W l Z R K Q h cc ss pc' ls st) (ho : 0 ≤ (pc : Int) + o := by decide) (hp : ((pc : Int) + o).toNat = pc' := by decide) : W l Z R K Q h cc ss pc ls (.int z :: .int x :: st) :=
  fun T L X N e => Ends.step (fun t k => XS.icmpYes X.here ok.1 rfl (pc0 := pc) (pc' := pc') rfl (hb ok.2.2.1 hd) rfl (cd_t hc) ho hp k) (H T L X N e)
theorem W.icmpF (ok : Ok Z K y code maxL ret) {cd : ClassFile.Cond} {x z : Int32} {o : Int} (hd : decode code pc = .ok (.if_icmp cd o, 3)) (pc' : Nat) (hc : cdF cd x z) (H : W l Z R K Q h cc ss pc' ls st) (hp : pc + 3 = pc' := by rfl) : W l Z R K Q h cc ss pc ls (.int z :: .int x :: st) := by
  subst hp
  exact fun T L X N e => Ends.step (fun t k => XS.icmpNo X.here ok.1 rfl (hb ok.2.2.1 hd) rfl (cd_f hc) k) (H T L X N e)
theorem W.icmp (ok : Ok Z K y code maxL ret) {cd : ClassFile.Cond} {x z : Int32} {o : Int} (hd : decode code pc = .ok (.if_icmp cd o, 3)) (pcT pcF : Nat) (HT : cdT cd x z → W l Z R K Q h cc ss pcT ls st) (HF : cdF cd x z → W l Z R K Q h cc ss pcF ls st) (ho : 0 ≤ (pc : Int) + o := by decide) (hp : ((pc : Int) + o).toNat = pcT := by decide) (hq : pc + 3 = pcF := by rfl) : W l Z R K Q h cc ss pc ls (.int z :: .int x :: st) :=
  (cd_or cd x z).elim (fun hc => W.icmpT ok hd pcT hc (HT hc) ho hp) (fun hc => W.icmpF ok hd pcF hc (HF hc) hq)
theorem W.ifT (ok : Ok Z K y code maxL ret) {cd : ClassFile.Cond} {x : Int32} {o : Int} (hd : decode code pc = .ok (.ifCond cd o, 3)) (pc' : Nat) (hc : cdT cd x 0) (H : W l Z R K Q h cc ss pc' ls st) (ho : 0 ≤ (pc : Int) + o := by decide) (hp : ((pc : Int) + o).toNat = pc' := by decide) : W l Z R K Q h cc ss pc ls (.int x :: st) :=
  fun T L X N e => Ends.step (fun t k => XS.ifYes X.here ok.1 rfl (pc0 := pc) (pc' := pc') rfl (hb ok.2.2.1 hd) rfl ((if0 _ _).trans (cd_t hc)) ho hp k) (H T L X N e)
theorem W.ifF (ok : Ok Z K y code maxL ret) {cd : ClassFile.Cond} {x : Int32} {o : Int} (hd : decode code pc = .ok (.ifCond cd o, 3)) (pc' : Nat) (hc : cdF cd x 0) (H : W l Z R K Q h cc ss pc' ls st) (hp : pc + 3 = pc' := by rfl) : W l Z R K Q h cc ss pc ls (.int x :: st) := by
  subst hp
  exact fun T L X N e => Ends.step (fun t k => XS.ifNo X.here ok.1 rfl (hb ok.2.2.1 hd) rfl ((if0 _ _).trans (cd_f hc)) k) (H T L X N e)
theorem W.iff (ok : Ok Z K y code maxL ret) {cd : ClassFile.Cond} {x : Int32} {o : Int} (hd : decode code pc = .ok (.ifCond cd o, 3)) (pcT pcF : Nat) (HT : cdT cd x 0 → W l Z R K Q h cc ss pcT ls st) (HF : cdF cd x 0 → W l Z R K Q h cc ss pcF ls st) (ho : 0 ≤ (pc : Int) + o := by decide) (hp : ((pc : Int) + o).toNat = pcT := by decide) (hq : pc + 3 = pcF := by rfl) : W l Z R K Q h cc ss pc ls (.int x :: st) :=
  (cd_or cd x 0).elim (fun hc => W.ifT ok hd pcT hc (HT hc) ho hp) (fun hc => W.ifF ok hd pcF hc (HF hc) hq)
theorem W.ifnullT (ok : Ok Z K y code maxL ret) {o : Int} (hd : decode code pc = .ok (.ifnull o, 3)) (pc' : Nat) (H : W l Z R K Q h cc ss pc' ls st) (ho : 0 ≤ (pc : Int) + o := by decide) (hp : ((pc : Int) + o).toNat = pc' := by decide) : W l Z R K Q h cc ss pc ls (.null :: st) :=
  fun T L X N e => Ends.step (fun t k => XS.ifnullYes X.here ok.1 rfl (pc0 := pc) (pc' := pc') rfl (hb ok.2.2.1 hd) rfl ho hp k) (H T L X N e)
theorem W.ifnullF (ok : Ok Z K y code maxL ret) {o : Int} {a : Addr} (hd : decode code pc = .ok (.ifnull o, 3)) (pc' : Nat) (H : W l Z R K Q h cc ss pc' ls st) (hp : pc + 3 = pc' := by rfl) : W l Z R K Q h cc ss pc ls (.ref a :: st) := by
  subst hp
  exact fun T L X N e => Ends.step (fun t k => XS.ifnullNo X.here ok.1 rfl (hb ok.2.2.1 hd) rfl k) (H T L X N e)
theorem W.ifnonnullT (ok : Ok Z K y code maxL ret) {o : Int} {a : Addr} (hd : decode code pc = .ok (.ifnonnull o, 3)) (pc' : Nat) (H : W l Z R K Q h cc ss pc' ls st) (ho : 0 ≤ (pc : Int) + o := by decide) (hp : ((pc : Int) + o).toNat = pc' := by decide) : W l Z R K Q h cc ss pc ls (.ref a :: st) :=
  fun T L X N e => Ends.step (fun t k => XS.ifnonnullYes X.here ok.1 rfl (pc0 := pc) (pc' := pc') rfl (hb ok.2.2.1 hd) rfl ho hp k) (H T L X N e)
theorem W.ifnonnullF (ok : Ok Z K y code maxL ret) {o : Int} (hd : decode code pc = .ok (.ifnonnull o, 3)) (pc' : Nat) (H : W l Z R K Q h cc ss pc' ls st) (hp : pc + 3 = pc' := by rfl) : W l Z R K Q h cc ss pc ls (.null :: st) := by
  subst hp
  exact fun T L X N e => Ends.step (fun t k => XS.ifnonnullNo X.here ok.1 rfl (hb ok.2.2.1 hd) rfl k) (H T L X N e)
theorem W.acmp (ok : Ok Z K y code maxL ret) {cd : ACond} {v w : Value} {o : Int} (hd : decode code pc = .ok (.if_acmp cd o, 3)) (pc' : Nat) (same : Bool) (hq : decide (v = w) = same) (H : W l Z R K Q h cc ss pc' ls st) (hv : v.isRef = true := by rfl) (hw : w.isRef = true := by rfl) (ho : 0 ≤ (pc : Int) + o := by decide) (hp : pc' = if acV cd same = true then ((pc : Int) + o).toNat else pc + 3 := by decide) : W l Z R K Q h cc ss pc ls (w :: v :: st) :=
  fun T L X N e => Ends.step (fun t k => Jvm.RoadKit.acmp (g := mkF K.m pc ls (w :: v :: st)) X ok.1 rfl hv hw (pc0 := pc) (pc' := pc') rfl (hb ok.2.2.1 hd) rfl hq ho hp k) (H T L X N e)
theorem tb_of {tb : ∀ d ∈ ts, d.before a0 Z = true} {i : Nat} {d : Jvm.Cond} (w : ts[i]? = some d) : d.before a0 Z = true := tb d (List.mem_of_getElem? w)
theorem W.ldc (ok : Ok Z K y code maxL ret) (tb : ∀ d ∈ ts, d.before a0 Z = true) (i : Nat) {idx : Nat} {v : Int32} (w : ts[i]? = some (.constant y.cls idx v)) (hd : decode code pc = .ok (.ldc idx, 2)) (pc' : Nat) (H : W l Z R K Q h cc ss pc' ls (.int v :: st)) (hp : pc + 2 = pc' := by rfl) : W l Z R K Q h cc ss pc ls st := by
  subst hp
  exact fun T L X N e => Ends.step (fun t k => X.ldcInt ok.1 ok.2.2.2.2.1 (mvT ok.2.1 (tb _ (List.mem_of_getElem? w))) (g := mkF K.m pc ls st) rfl (hb ok.2.2.1 hd) _ k) (H T L X N e)
theorem W.ldcw (ok : Ok Z K y code maxL ret) (tb : ∀ d ∈ ts, d.before a0 Z = true) (i : Nat) {idx : Nat} {v : Int32} (w : ts[i]? = some (.constant y.cls idx v)) (hd : decode code pc = .ok (.ldc_w idx, 3)) (pc' : Nat) (H : W l Z R K Q h cc ss pc' ls (.int v :: st)) (hp : pc + 3 = pc' := by rfl) : W l Z R K Q h cc ss pc ls st := by
  subst hp
  exact fun T L X N e => Ends.step (fun t k => X.ldcwInt ok.1 ok.2.2.2.2.1 (mvT ok.2.1 (tb _ (List.mem_of_getElem? w))) (g := mkF K.m pc ls st) rfl (hb ok.2.2.1 hd) _ k) (H T L X N e)

/-! returns -/
theorem W.retA {t : FieldType} (ok : Ok Z K y code maxL (some t)) {w : Value} {i : Instr} (hd : decode code pc = .ok (i, 1)) (hn : narrow t w = w)
    (hi : (i = .ireturn ∧ (t = .int ∨ t = .boolean ∨ t = .byte ∨ t = .char ∨ t = .short) ∧ ∃ z, w = .int z) ∨ (i = .lreturn ∧ t = .long ∧ ∃ z, w = .long z) ∨ (i = .dreturn ∧ t = .double ∧ ∃ z, w = .double z) ∨ (i = .freturn ∧ t = .float ∧ ∃ z, w = .float z) ∨ (i = .areturn ∧ t.isReference = true ∧ w.isRef = true))
    (HQ : Q (some w) h) (hc : cc ≤ R.cells) (hs : ss ≤ R.slots) : W l Z R K Q h cc ss pc ls (w :: st) := by
  intro T L X N e
  obtain ⟨fs, hr, hrun, hended, hW, hsame⟩ := X.leave (v := some w) (fun q => by rw [ok.2.2.2.2.2.1] at q; cases q) ok.2.2.2.2.2.2.2.1
  exact ⟨_, _, retOut X ok.1 ok.2.2.2.2.2.1 hn hi (hb ok.2.2.1 hd) hr, hrun, hended, _, L, rfl, ⟨by show Q (some w) T.heap; rw [e]; exact HQ, N⟩, ok.2.2.2.2.2.2.2.2 _ _ _ _ _ ⟨⟨_, rfl⟩, hW, hsame.mono hc hs⟩⟩
theorem W.iret {t : FieldType} (ok : Ok Z K y code maxL (some t)) {v : Int32} (hd : decode code pc = .ok (.ireturn, 1)) (hn : narrow t (.int v) = .int v) (HQ : Q (some (.int v)) h)
    (ht : t = .int ∨ t = .boolean ∨ t = .byte ∨ t = .char ∨ t = .short := by simp) (hc : cc ≤ R.cells := by decide) (hs : ss ≤ R.slots := by decide) : W l Z R K Q h cc ss pc ls (.int v :: st) :=
  W.retA ok hd hn (Or.inl ⟨rfl, ht, _, rfl⟩) HQ hc hs
theorem W.aret {t : FieldType} (ok : Ok Z K y code maxL (some t)) {w : Value} (hd : decode code pc = .ok (.areturn, 1)) (HQ : Q (some w) h) (hn : narrow t w = w := by rfl)
    (ht : t.isReference = true := by rfl) (hw : w.isRef = true := by rfl) (hc : cc ≤ R.cells := by decide) (hs : ss ≤ R.slots := by decide) : W l Z R K Q h cc ss pc ls (w :: st) :=
  W.retA ok hd hn (Or.inr (Or.inr (Or.inr (Or.inr ⟨rfl, ht, hw⟩)))) HQ hc hs
theorem W.vret (ok : Ok Z K y code maxL none) (hd : decode code pc = .ok (.return_, 1)) (HQ : Q none h) (hc : cc ≤ R.cells := by decide) (hs : ss ≤ R.slots := by decide) : W l Z R K Q h cc ss pc ls [] := by
  intro T L X N e
  obtain ⟨fs, hr, hrun, hended, hW, hsame⟩ := X.leave (v := none) (fun q => rfl) ok.2.2.2.2.2.2.2.1
  exact ⟨_, _, X.returnOut ok.1 ok.2.2.2.2.2.1 (hb ok.2.2.1 hd) hr, hrun, hended, _, L, rfl, ⟨by show Q none T.heap; rw [e]; exact HQ, N⟩, ok.2.2.2.2.2.2.2.2 _ _ _ _ _ ⟨⟨_, rfl⟩, hW, hsame.mono hc hs⟩⟩
/-! calls -/
abbrev Tb (Z : State) (a0 : Array Value) (ts : List Jvm.Cond) : Prop := ∀ d ∈ ts, d.before a0 Z = true
theorem W.callS (ok : Ok Z K y code maxL ret) (tb : Tb Z a0 ts) {idx : Nat} {z : MethodName} {code' : ByteArray} {maxL' : Nat} {ret' : Option FieldType} {rm : Room} {Q' : Option Value → Heap → Prop} {ps : List FieldType} {rt : Option FieldType} {argsL rest : List Value}
    (i1 i2 i3 i4 : Nat) (w1 : ts[i1]? = some (.methodLink y.cls idx z)) (w2 : ts[i2]? = some (.static z)) (w3 : ts[i3]? = some (.initialized z.cls)) (w4 : ts[i4]? = some (.code z code' maxL' ret'))
    (hd : decode code pc = .ok (.invokestatic idx, 3)) (hpd : parseMethodDescriptor z.desc = some ⟨ps, rt⟩) (con : Con l Z z code' maxL' ret' rm argsL.toArray h Q') (wgt cc' ss' pc' : Nat)
    (H : ∀ v h', Q' v h' → W l Z R K Q h' cc' ss' pc' ls (v.toList ++ rest))
    (hm : z.cls ≠ "java/lang/invoke/MethodHandle" ∧ z.cls ≠ "java/lang/invoke/VarHandle" := by decide) (hlen : argsL.length = ps.length := by rfl) (hst : st = argsL.reverse ++ rest := by rfl) (hW : (rest.map fun v => v.category).sum ≤ wgt := by exact Nat.le_refl _)
    (hf : rm.frames + 1 ≤ R.frames := by decide) (hl : wgt + (maxL' + 11) + rm.locals ≤ R.locals := by decide) (hc : cc' ≤ R.cells := by decide) (hs : ss' ≤ R.slots := by decide) (hc' : cc + rm.cells = cc' := by rfl) (hs' : ss + rm.slots = ss' := by rfl) (hsz : ls.size = maxL := by rfl) (hp : pc + 3 = pc' := by rfl) :
    W l Z R K Q h cc ss pc ls st := by
  subst hst hc' hs' hp
  intro T L X N e
  obtain ⟨v, _, ⟨T', L', k', n'⟩, -, X', ⟨Lc, hQ, l1, l2, l3⟩, stp⟩ := Jvm.LawKit.callS X ok.1 (y := z) ok.2.2.2.2.1 (mvT ok.2.1 (tb _ (List.mem_of_getElem? w1))) (mvT ok.2.1 (tb _ (List.mem_of_getElem? w2))) (mvT ok.2.1 (tb _ (List.mem_of_getElem? w3))) (mvT ok.2.1 (tb _ (List.mem_of_getElem? w4))) hm
    (backOf (W := wgt) (Q := fun v h L => Q' v h ∧ Fr Z.heap.size L) (con []) ok.2.1 (tb _ (List.mem_of_getElem? w4)) (tb _ (List.mem_of_getElem? w3)) hf hl) (g := mkF K.m pc ls (argsL.reverse ++ rest)) rfl (hsz.trans ok.2.2.2.1.symm) (argsL := argsL) (rest := rest) (lenOf hpd hlen) rfl (by simpa using hW) (hb ok.2.2.1 hd) (fun _ _ => ⟨rfl, e, hc, hs⟩)
  dsimp only [Pt.U, Pt.locs, Pt.cells, Pt.slots] at X' l1 l2 l3 stp hQ
  subst l1 l2 l3
  exact Ends.step stp (H v T'.heap hQ.1 T' _ X' (N.app hQ.2) rfl)
theorem W.callI (ok : Ok Z K y code maxL ret) (tb : Tb Z a0 ts) {idx : Nat} {z : MethodName} {code' : ByteArray} {maxL' : Nat} {rm : Room} {Q' : Option Value → Heap → Prop} {ps : List FieldType} {rt : Option FieldType} {a : Addr} {argsL rest : List Value}
    (i1 i2 i3 i4 : Nat) (w1 : ts[i1]? = some (.methodLink y.cls idx z)) (w2 : ts[i2]? = some (.instanceMethod z)) (w3 : ts[i3]? = some (.initialized z.cls)) (w4 : ts[i4]? = some (.code z code' maxL' none))
    (hd : decode code pc = .ok (.invokespecial idx, 3)) (hpd : parseMethodDescriptor z.desc = some ⟨ps, rt⟩) (con : Con l Z z code' maxL' none rm (.ref a :: argsL).toArray h Q') (wgt cc' ss' pc' : Nat)
    (H : ∀ v h', Q' v h' → W l Z R K Q h' cc' ss' pc' ls (v.toList ++ rest))
    (hnm : z.name = "<init>" := by rfl) (hm : z.cls ≠ "java/lang/invoke/MethodHandle" ∧ z.cls ≠ "java/lang/invoke/VarHandle" := by decide) (hlen : argsL.length = ps.length := by rfl) (hst : st = argsL.reverse ++ .ref a :: rest := by rfl) (hW : (rest.map fun v => v.category).sum ≤ wgt := by exact Nat.le_refl _)
    (hf : rm.frames + 1 ≤ R.frames := by decide) (hl : wgt + (maxL' + 11) + rm.locals ≤ R.locals := by decide) (hc : cc' ≤ R.cells := by decide) (hs : ss' ≤ R.slots := by decide) (hc' : cc + rm.cells = cc' := by rfl) (hs' : ss + rm.slots = ss' := by rfl) (hsz : ls.size = maxL := by rfl) (hp : pc + 3 = pc' := by rfl) :
    W l Z R K Q h cc ss pc ls st := by
  subst hst hc' hs' hp
  intro T L X N e
  obtain ⟨v, _, ⟨T', L', k', n'⟩, -, X', ⟨Lc, hQ, l1, l2, l3⟩, stp⟩ := X.specialBack ok.1 (y := z) hnm ok.2.2.2.2.1 (mvT ok.2.1 (tb _ (List.mem_of_getElem? w1))) (mvT ok.2.1 (tb _ (List.mem_of_getElem? w2))) (mvT ok.2.1 (tb _ (List.mem_of_getElem? w4))) hm
    (backOf (W := wgt) (Q := fun v h L => Q' v h ∧ Fr Z.heap.size L) (con []) ok.2.1 (tb _ (List.mem_of_getElem? w4)) (tb _ (List.mem_of_getElem? w3)) hf hl) (g := mkF K.m pc ls (argsL.reverse ++ .ref a :: rest)) rfl (hsz.trans ok.2.2.2.1.symm) (Steps.refl _) (a := a) (argsL := argsL) (rest := rest) (lenOf hpd hlen) rfl (by simpa using hW) (hb ok.2.2.1 hd) (fun _ _ => ⟨rfl, e, hc, hs⟩)
  dsimp only [Pt.U, Pt.locs, Pt.cells, Pt.slots] at X' l1 l2 l3 stp hQ
  subst l1 l2 l3
  exact Ends.step (fun t k => stp.trans k) (H v T'.heap hQ.1 T' _ X' (N.app hQ.2) rfl)
theorem W.initO (ok : Ok Z K y code maxL ret) (tb : Tb Z a0 ts) {idx : Nat} {a : Addr} (i1 i2 i3 : Nat) (w1 : ts[i1]? = some (.methodLink y.cls idx Lib.objectInit)) (w2 : ts[i2]? = some (.instanceMethod Lib.objectInit)) (w3 : ts[i3]? = some (.code Lib.objectInit ⟨#[0xb1]⟩ 1 none))
    (hd : decode code pc = .ok (.invokespecial idx, 3)) (wgt pc' : Nat) (H : W l Z R K Q h cc ss pc' ls st) (hW : (st.map fun v => v.category).sum ≤ wgt := by exact Nat.le_refl _) (hf : 1 ≤ R.frames := by decide) (hl : wgt + 12 ≤ R.locals := by decide) (hsz : ls.size = maxL := by rfl) (hp : pc + 3 = pc' := by rfl) :
    W l Z R K Q h cc ss pc ls (.ref a :: st) := by
  subst hp
  intro T L X N e
  obtain ⟨T', X', e', stp⟩ := Jvm.RoadKit.initO X ok.1 ok.2.1 ok.2.2.2.2.1 (tb _ (List.mem_of_getElem? w1)) (tb _ (List.mem_of_getElem? w2)) (tb _ (List.mem_of_getElem? w3)) e (g := mkF K.m pc ls (.ref a :: st)) rfl (hsz.trans ok.2.2.2.1.symm) rfl (hb ok.2.2.1 hd) hf (W := wgt) (by simpa using hW) hl
  exact Ends.step stp (H T' _ X' N e')
theorem W.callV (ok : Ok Z K y code maxL ret) (tb : Tb Z a0 ts) {idx : Nat} {z z' : MethodName} {C : String} {code' : ByteArray} {maxL' : Nat} {ret' : Option FieldType} {rm : Room} {Q' : Option Value → Heap → Prop} {ps : List FieldType} {rt : Option FieldType} {a : Addr} {argsL rest : List Value}
    (i1 i2 i3 i4 i5 i6 : Nat) (w1 : ts[i1]? = some (.methodLink y.cls idx z)) (w2 : ts[i2]? = some (.declares z)) (w3 : ts[i3]? = some (.selects C z z')) (w4 : ts[i4]? = some (.instanceMethod z')) (w5 : ts[i5]? = some (.code z' code' maxL' ret')) (w6 : ts[i6]? = some (.initialized z'.cls))
    (nf : NotFace K.s z) (E : Exa Z h a C)
    (hd : decode code pc = .ok (.invokevirtual idx, 3)) (hpd : parseMethodDescriptor z.desc = some ⟨ps, rt⟩) (con : Con l Z z' code' maxL' ret' rm (.ref a :: argsL).toArray h Q') (wgt cc' ss' pc' : Nat)
    (H : ∀ v h', Q' v h' → W l Z R K Q h' cc' ss' pc' ls (v.toList ++ rest))
    (hm : z.cls ≠ "java/lang/invoke/MethodHandle" ∧ z.cls ≠ "java/lang/invoke/VarHandle" := by decide) (hlen : argsL.length = ps.length := by rfl) (hst : st = argsL.reverse ++ .ref a :: rest := by rfl) (hW : (rest.map fun v => v.category).sum ≤ wgt := by exact Nat.le_refl _)
    (hf : rm.frames + 1 ≤ R.frames := by decide) (hl : wgt + (maxL' + 11) + rm.locals ≤ R.locals := by decide) (hc : cc' ≤ R.cells := by decide) (hs : ss' ≤ R.slots := by decide) (hc' : cc + rm.cells = cc' := by rfl) (hs' : ss + rm.slots = ss' := by rfl) (hsz : ls.size = maxL := by rfl) (hp : pc + 3 = pc' := by rfl) :
    W l Z R K Q h cc ss pc ls st := by
  subst hst hc' hs' hp
  intro T L X N e
  obtain ⟨cq, kq, qa, qb, qc⟩ := isOf (T := T) ok.2.1 e E
  obtain ⟨v, _, ⟨T', L', k', n'⟩, -, X', ⟨Lc, hQ, l1, l2, l3⟩, stp⟩ := X.virtualBack ok.1 (y := z) (z := z') ok.2.2.2.2.1 (mvT ok.2.1 (tb _ (List.mem_of_getElem? w1))) (mvT ok.2.1 (tb _ (List.mem_of_getElem? w2))) nf (mvT ok.2.1 (tb _ (List.mem_of_getElem? w3))) (mvT ok.2.1 (tb _ (List.mem_of_getElem? w4))) hm
    (backOf (W := wgt) (Q := fun v h L => Q' v h ∧ Fr Z.heap.size L) (con []) ok.2.1 (tb _ (List.mem_of_getElem? w5)) (tb _ (List.mem_of_getElem? w6)) hf hl) qa qc (g := mkF K.m pc ls (argsL.reverse ++ .ref a :: rest)) rfl (hsz.trans ok.2.2.2.1.symm) (Steps.refl _) (argsL := argsL) (rest := rest) (lenOf hpd hlen) rfl (by simpa using hW) (hb ok.2.2.1 hd) (fun _ _ => ⟨rfl, e, hc, hs⟩)
  dsimp only [Pt.U, Pt.locs, Pt.cells, Pt.slots] at X' l1 l2 l3 stp hQ
  subst l1 l2 l3
  exact Ends.step (fun t k => stp.trans k) (H v T'.heap hQ.1 T' _ X' (N.app hQ.2) rfl)
theorem W.callU (ok : Ok Z K y code maxL ret) (tb : Tb Z a0 ts) {idx : Nat} {z z' : MethodName} {C owner : String} {code' : ByteArray} {maxL' : Nat} {ret' : Option FieldType} {rm : Room} {Q' : Option Value → Heap → Prop} {ps : List FieldType} {rt : Option FieldType} {a : Addr} {argsL rest : List Value}
    (i1 i2 i3 i4 i5 i6 i7 : Nat) (w1 : ts[i1]? = some (.methodLink y.cls idx z)) (w2 : ts[i2]? = some (.declares ⟨owner, z.name, z.desc⟩)) (w3 : ts[i3]? = some (.selects C z z')) (w4 : ts[i4]? = some (.instanceMethod z')) (w5 : ts[i5]? = some (.code z' code' maxL' ret')) (w6 : ts[i6]? = some (.initialized z'.cls)) (w7 : ts[i7]? = some (.sameMethod z.cls owner z.name z.desc))
    (E : Exa Z h a C)
    (hd : decode code pc = .ok (.invokevirtual idx, 3)) (hpd : parseMethodDescriptor z.desc = some ⟨ps, rt⟩) (con : Con l Z z' code' maxL' ret' rm (.ref a :: argsL).toArray h Q') (wgt cc' ss' pc' : Nat)
    (H : ∀ v h', Q' v h' → W l Z R K Q h' cc' ss' pc' ls (v.toList ++ rest))
    (hm : owner ≠ "java/lang/invoke/MethodHandle" ∧ owner ≠ "java/lang/invoke/VarHandle" := by decide) (hlen : argsL.length = ps.length := by rfl) (hst : st = argsL.reverse ++ .ref a :: rest := by rfl) (hW : (rest.map fun v => v.category).sum ≤ wgt := by exact Nat.le_refl _)
    (hf : rm.frames + 1 ≤ R.frames := by decide) (hl : wgt + (maxL' + 11) + rm.locals ≤ R.locals := by decide) (hc : cc' ≤ R.cells := by decide) (hs : ss' ≤ R.slots := by decide) (hc' : cc + rm.cells = cc' := by rfl) (hs' : ss + rm.slots = ss' := by rfl) (hsz : ls.size = maxL := by rfl) (hp : pc + 3 = pc' := by rfl) :
    W l Z R K Q h cc ss pc ls st := by
  subst hst hc' hs' hp
  intro T L X N e
  obtain ⟨cq, kq, qa, qb, qc⟩ := isOf (T := T) ok.2.1 e E
  obtain ⟨v, _, ⟨T', L', k', n'⟩, -, X', ⟨Lc, hQ, l1, l2, l3⟩, stp⟩ := X.virtualBackUp ok.1 (x := z) (y := z') (owner := owner) ok.2.2.2.2.1 (mvT ok.2.1 (tb _ (List.mem_of_getElem? w1))) (mvT ok.2.1 (tb _ (List.mem_of_getElem? w7))) (mvT ok.2.1 (tb _ (List.mem_of_getElem? w2))) hm (mvT ok.2.1 (tb _ (List.mem_of_getElem? w3))) (mvT ok.2.1 (tb _ (List.mem_of_getElem? w4)))
    (backOf (W := wgt) (Q := fun v h L => Q' v h ∧ Fr Z.heap.size L) (con []) ok.2.1 (tb _ (List.mem_of_getElem? w5)) (tb _ (List.mem_of_getElem? w6)) hf hl) qa qc (g := mkF K.m pc ls (argsL.reverse ++ .ref a :: rest)) rfl (hsz.trans ok.2.2.2.1.symm) (Steps.refl _) (argsL := argsL) (rest := rest) (lenOf hpd hlen) rfl (by simpa using hW) (hb ok.2.2.1 hd) (fun _ _ => ⟨rfl, e, hc, hs⟩)
  dsimp only [Pt.U, Pt.locs, Pt.cells, Pt.slots] at X' l1 l2 l3 stp hQ
  subst l1 l2 l3
  exact Ends.step (fun t k => stp.trans k) (H v T'.heap hQ.1 T' _ X' (N.app hQ.2) rfl)
theorem W.callP (ok : Ok Z K y code maxL ret) (tb : Tb Z a0 ts) {idx : Nat} {z : MethodName} {code' : ByteArray} {maxL' : Nat} {ret' : Option FieldType} {rm : Room} {Q' : Option Value → Heap → Prop} {ps : List FieldType} {rt : Option FieldType} {a : Addr} {C : String} {argsL rest : List Value}
    (i1 i2 i3 i4 i5 i6 : Nat) (w1 : ts[i1]? = some (.methodLink y.cls idx z)) (w2 : ts[i2]? = some (.instanceMethod z)) (w3 : ts[i3]? = some (.selects z.cls z z)) (w4 : ts[i4]? = some (.privateMethod z)) (w5 : ts[i5]? = some (.code z code' maxL' ret')) (w6 : ts[i6]? = some (.initialized z.cls))
    (E : Exa Z h a C)
    (hd : decode code pc = .ok (.invokevirtual idx, 3)) (hpd : parseMethodDescriptor z.desc = some ⟨ps, rt⟩) (con : Con l Z z code' maxL' ret' rm (.ref a :: argsL).toArray h Q') (wgt cc' ss' pc' : Nat)
    (H : ∀ v h', Q' v h' → W l Z R K Q h' cc' ss' pc' ls (v.toList ++ rest))
    (hm : z.cls ≠ "java/lang/invoke/MethodHandle" ∧ z.cls ≠ "java/lang/invoke/VarHandle" := by decide) (hlen : argsL.length = ps.length := by rfl) (hst : st = argsL.reverse ++ .ref a :: rest := by rfl) (hW : (rest.map fun v => v.category).sum ≤ wgt := by exact Nat.le_refl _)
    (hf : rm.frames + 1 ≤ R.frames := by decide) (hl : wgt + (maxL' + 11) + rm.locals ≤ R.locals := by decide) (hc : cc' ≤ R.cells := by decide) (hs : ss' ≤ R.slots := by decide) (hc' : cc + rm.cells = cc' := by rfl) (hs' : ss + rm.slots = ss' := by rfl) (hsz : ls.size = maxL := by rfl) (hp : pc + 3 = pc' := by rfl) :
    W l Z R K Q h cc ss pc ls st := by
  subst hst hc' hs' hp
  intro T L X N e
  obtain ⟨cq, q1, q2⟩ := E.cell
  obtain ⟨v, _, ⟨T', L', k', n'⟩, -, X', ⟨Lc, hQ, l1, l2, l3⟩, stp⟩ := X.privateBack ok.1 (y := z) ok.2.2.2.2.1 (mvT ok.2.1 (tb _ (List.mem_of_getElem? w1))) (mvT ok.2.1 (tb _ (List.mem_of_getElem? w2))) (mvT ok.2.1 (tb _ (List.mem_of_getElem? w3))) (Cond.privateMethod_at (mvP ok.2.1 (tb _ (List.mem_of_getElem? w4)) (args := #[]))) (mvT ok.2.1 (tb _ (List.mem_of_getElem? w5))) hm
    (backOf (W := wgt) (Q := fun v h L => Q' v h ∧ Fr Z.heap.size L) (con []) ok.2.1 (tb _ (List.mem_of_getElem? w5)) (tb _ (List.mem_of_getElem? w6)) hf hl) (g := mkF K.m pc ls (argsL.reverse ++ .ref a :: rest)) rfl (hsz.trans ok.2.2.2.1.symm) (Steps.refl _) (a := a) (by rw [e]; exact q1) q2 (argsL := argsL) (rest := rest) (lenOf hpd hlen) rfl (by simpa using hW) (hb ok.2.2.1 hd) (fun _ _ => ⟨rfl, e, hc, hs⟩)
  dsimp only [Pt.U, Pt.locs, Pt.cells, Pt.slots] at X' l1 l2 l3 stp hQ
  subst l1 l2 l3
  exact Ends.step (fun t k => stp.trans k) (H v T'.heap hQ.1 T' _ X' (N.app hQ.2) rfl)
theorem W.callF (ok : Ok Z K y code maxL ret) (tb : Tb Z a0 ts) {idx cnt : Nat} {z z' : MethodName} {C : String} {code' : ByteArray} {maxL' : Nat} {ret' : Option FieldType} {rm : Room} {Q' : Option Value → Heap → Prop} {ps : List FieldType} {rt : Option FieldType} {a : Addr} {argsL rest : List Value}
    (i1 i2 i3 i4 i5 i6 i7 i8 i9 : Nat) (w1 : ts[i1]? = some (.methodLink y.cls idx z)) (w2 : ts[i2]? = some (.declares z)) (w3 : ts[i3]? = some (.selects C z z')) (w4 : ts[i4]? = some (.instanceMethod z')) (w5 : ts[i5]? = some (.code z' code' maxL' ret')) (w6 : ts[i6]? = some (.initialized z'.cls))
    (w7 : ts[i7]? = some (.interfaceMethod z.cls z.cls z.name z.desc)) (w8 : ts[i8]? = some (.publicMethod z')) (w9 : ts[i9]? = some (.unhidden C z.name z.desc)) (i10 : Nat) (w10 : ts[i10]? = some (.castable C z.cls))
    (E : Exa Z h a C)
    (hd : decode code pc = .ok (.invokeinterface idx cnt, 5)) (hpd : parseMethodDescriptor z.desc = some ⟨ps, rt⟩) (con : Con l Z z' code' maxL' ret' rm (.ref a :: argsL).toArray h Q') (wgt cc' ss' pc' : Nat)
    (H : ∀ v h', Q' v h' → W l Z R K Q h' cc' ss' pc' ls (v.toList ++ rest))
    (hq : ((Jvm.Cond.interfaceMethod z.cls z.cls z.name z.desc).onTables && (Jvm.Cond.interfaceMethod z.cls z.cls z.name z.desc).keepsFace) = true := by rfl) (hm : z.cls ≠ "java/lang/invoke/MethodHandle" ∧ z.cls ≠ "java/lang/invoke/VarHandle" := by decide) (hlen : argsL.length = ps.length := by rfl) (hst : st = argsL.reverse ++ .ref a :: rest := by rfl) (hW : (rest.map fun v => v.category).sum ≤ wgt := by exact Nat.le_refl _)
    (hf : rm.frames + 1 ≤ R.frames := by decide) (hl : wgt + (maxL' + 11) + rm.locals ≤ R.locals := by decide) (hc : cc' ≤ R.cells := by decide) (hs : ss' ≤ R.slots := by decide) (hc' : cc + rm.cells = cc' := by rfl) (hs' : ss + rm.slots = ss' := by rfl) (hsz : ls.size = maxL := by rfl) (hp : pc + 5 = pc' := by rfl) :
    W l Z R K Q h cc ss pc ls st := by
  subst hst hc' hs' hp
  intro T L X N e
  obtain ⟨cq, kq, qa, qb, qc⟩ := isOf (T := T) ok.2.1 e E
  obtain ⟨v, _, ⟨T', L', k', n'⟩, -, X', ⟨Lc, hQ, l1, l2, l3⟩, stp⟩ := X.interfaceBack ok.1 (xi := z) (y := z') ok.2.2.2.2.1 (mvT ok.2.1 (tb _ (List.mem_of_getElem? w1))) (mvT ok.2.1 (tb _ (List.mem_of_getElem? w2))) (mvT ok.2.1 (tb _ (List.mem_of_getElem? w7)) hq) (mvT ok.2.1 (tb _ (List.mem_of_getElem? w3))) (mvT ok.2.1 (tb _ (List.mem_of_getElem? w4))) (mvT ok.2.1 (tb _ (List.mem_of_getElem? w8))) (mvT ok.2.1 (tb _ (List.mem_of_getElem? w9))) (mvT ok.2.1 (tb _ (List.mem_of_getElem? w10))) hm
    (backOf (W := wgt) (Q := fun v h L => Q' v h ∧ Fr Z.heap.size L) (con []) ok.2.1 (tb _ (List.mem_of_getElem? w5)) (tb _ (List.mem_of_getElem? w6)) hf hl) qa qb qc (g := mkF K.m pc ls (argsL.reverse ++ .ref a :: rest)) rfl (hsz.trans ok.2.2.2.1.symm) (Steps.refl _) (argsL := argsL) (rest := rest) (lenOf hpd hlen) rfl (by simpa using hW) (hb ok.2.2.1 hd) (fun _ _ => ⟨rfl, e, hc, hs⟩)
  dsimp only [Pt.U, Pt.locs, Pt.cells, Pt.slots] at X' l1 l2 l3 stp hQ
  subst l1 l2 l3
  exact Ends.step (fun t k => stp.trans k) (H v T'.heap hQ.1 T' _ X' (N.app hQ.2) rfl)
/-! the heap in pieces: objects (class, fields) and arrays (kind, class, values) made by this run; all that stood at the start stands -/
abbrev Fl : Type := String × String × String × Value
abbrev Pc : Type := (String × List Fl) ⊕ (FieldType × ClassId × List Value)
def Ch (Z : State) (h : Heap) (a : Addr) : Pc → Prop
  | .inl q => Exa Z h a q.1 ∧ ∀ f ∈ q.2, Fld Z h a f.1 f.2.1 f.2.2.1 f.2.2.2
  | .inr q => ∃ c : Cell, Arr Z h a c q.1 ∧ c.cls = q.2.1 ∧ c.slots.toList = q.2.2
def HS (Z : State) (h : Heap) (cs : List (Addr × Pc)) : Prop := Ext Z.heap h ∧ (∀ q ∈ cs, Z.heap.size ≤ q.1 ∧ Ch Z h q.1 q.2) ∧ (cs.map (fun q => q.1)).Nodup
def Lay (Z : State) (fs : List Fl) : Prop := (fs.map fun f => Jvm.RoadKit.slotOf Z f.1 f.2.1 f.2.2.1).Nodup
/-- a new object's fields -/
def Nw (Z : State) (a0 : Array Value) (C : String) (fs : List Fl) : Prop := ∀ f ∈ fs, Laid Z a0 C f.1 f.2.1 f.2.2.1 ∧ ∃ ty, parseFieldDescriptor f.2.2.1 = some ty ∧ defaultValue ty = f.2.2.2
theorem Nw.nil {C : String} : Nw Z a0 C [] := fun _ q => nomatch q
theorem Nw.cons {C O n d : String} {v : Value} {fs : List Fl} (L : Laid Z a0 C O n d) {ty : FieldType} (h1 : parseFieldDescriptor d = some ty) (h2 : defaultValue ty = v) (r : Nw Z a0 C fs) : Nw Z a0 C ((O, n, d, v) :: fs) := fun f hf => by
  rcases List.mem_cons.mp hf with rfl | hf
  · exact ⟨L, ty, h1, h2⟩
  · exact r f hf
theorem Lay.of {C : String} {fs fs0 : List Fl} (nw : Nw Z a0 C fs0) (he : fs.map (fun f => (f.1, f.2.1, f.2.2.1)) = fs0.map (fun f => (f.1, f.2.1, f.2.2.1))) (hn : (fs0.map (fun f => f.2.1)).Nodup := by decide) : Lay Z fs := by
  have e : fs.map (fun f => Jvm.RoadKit.slotOf Z f.1 f.2.1 f.2.2.1) = fs0.map (fun f => Jvm.RoadKit.slotOf Z f.1 f.2.1 f.2.2.1) := by
    have q := congrArg (List.map fun g : String × String × String => Jvm.RoadKit.slotOf Z g.1 g.2.1 g.2.2) he
    simp only [List.map_map] at q
    exact q
  unfold Lay
  rw [e]
  clear e he
  induction fs0 with
  | nil => exact List.nodup_nil
  | cons f fs0 ih =>
    rw [List.map_cons, List.nodup_cons] at hn ⊢
    refine ⟨fun hm => ?_, ih (fun g hg => nw g (List.mem_cons_of_mem _ hg)) hn.2⟩
    obtain ⟨g, hg, eg⟩ := List.mem_map.mp hm
    obtain ⟨L1, t1, p1, -⟩ := nw f (List.mem_cons_self ..)
    obtain ⟨L2, t2, p2, -⟩ := nw g (List.mem_cons_of_mem _ hg)
    exact slot_ne L1 L2 (fun q => hn.1 (List.mem_map.mpr ⟨g, hg, q.symm⟩)) p1 p2 eg.symm
theorem cat_of {v : Value} (h : v.isRef = true) : v.category = 1 := by
  rcases ref_cases h with rfl | ⟨_, rfl⟩ <;> rfl
/-! from the words of a case -/
theorem st_ref {args : Array Value} {C n d k : String} (w : (Jvm.Cond.exactly (.static C n d) k).value args Z none Z [] = some true) (hi : (Jvm.Cond.initializedFor C n d).before args Z = true ∨ ((Jvm.Cond.initialized C).before args Z = true ∧ (Jvm.Cond.laysStatic C n d).before args Z = true)) :
    ∃ a, (Term.static C n d).eval args Z none [] Z = some (.ref a) ∧ Sta Z Z.heap C n d (.ref a) ∧ Exa Z Z.heap a k := by
  obtain ⟨x, e⟩ := exa_v w
  exact ⟨x, e, Sta.start e hi, Exa.start e w⟩
theorem fl_of {args : Array Value} {t : Term} {a : Addr} {C n d : String} {i : Int32} (e : t.eval args Z none [] Z = some (.ref a)) (w : (Jvm.Cond.eq (.field t C n d) (.int i)).value args Z none Z [] = some true) : Fld Z Z.heap a C n d (.int i) := by
  have e2 := fld_at (C := C) (n := n) (dd := d) e
  refine Fld.start ?_
  cases hq : Z.fieldOf? a C n d with
  | none => rw [hq] at e2; simp [Cond.value, e2] at w
  | some v =>
    rw [hq] at e2
    cases v <;> simp [Cond.value, e2, Term.int_eval] at w
    rw [w]
variable {cs : List (Addr × Pc)} {h' : Heap} {a : Addr} {sl : Nat} {v : Value}
theorem Ch.lt {b : Pc} (F : Ch Z h a b) : a < h.size := by
  rcases b with q | q
  · exact F.1.lt
  · obtain ⟨c, A, -⟩ := F; exact A.lt
theorem Ch.ext {b : Pc} (E : Ext h h') (F : Ch Z h a b) : Ch Z h' a b := by
  rcases b with q | q
  · exact ⟨F.1.ext E, fun f hf => (F.2 f hf).ext E⟩
  · obtain ⟨c, A, r⟩ := F; exact ⟨c, A.ext E, r⟩
theorem Ch.other {b : Pc} {x : Addr} (W : Wr h h' x sl v) (ne : a ≠ x) (F : Ch Z h a b) : Ch Z h' a b := by
  rcases b with q | q
  · exact ⟨F.1.wr W, fun f hf => (F.2 f hf).other W (Or.inl ne)⟩
  · obtain ⟨c, A, r⟩ := F; exact ⟨c, A.other W ne, r⟩
theorem HS.nil (Z : State) : HS Z Z.heap [] := ⟨⟨Nat.le_refl _, fun _ _ q => q⟩, fun _ q => (by cases q), List.nodup_nil⟩
theorem HS.at (H : HS Z h cs) {i : Nat} {b : Pc} (hi : cs[i]? = some (a, b)) : Z.heap.size ≤ a ∧ Ch Z h a b := H.2.1 _ (List.mem_of_getElem? hi)
theorem HS.exa (H : HS Z h cs) {i : Nat} {C : String} {fs : List Fl} (hi : cs[i]? = some (a, .inl (C, fs))) : Exa Z h a C := (H.at hi).2.1
theorem HS.fld (H : HS Z h cs) {i j : Nat} {C : String} {fs : List Fl} {O n d : String} (hi : cs[i]? = some (a, .inl (C, fs))) (hj : fs[j]? = some (O, n, d, v)) : Fld Z h a O n d v := (H.at hi).2.2 _ (List.mem_of_getElem? hj)
theorem HS.add (H : HS Z h cs) (E : Ext h h') {b : Pc} (F : Ch Z h' h.size b) : HS Z h' ((h.size, b) :: cs) := by
  refine ⟨⟨Nat.le_trans H.1.1 E.1, fun x c q => E.2 x c (H.1.2 x c q)⟩, fun q hq => ?_, ?_⟩
  · rcases List.mem_cons.mp hq with rfl | hq
    · exact ⟨H.1.1, F⟩
    · exact ⟨(H.2.1 q hq).1, (H.2.1 q hq).2.ext E⟩
  · refine List.nodup_cons.mpr ⟨fun hm => ?_, H.2.2⟩
    obtain ⟨q, hq, e⟩ := List.mem_map.mp hm
    have := (H.2.1 q hq).2.lt
    rw [e] at this
    exact Nat.lt_irrefl _ this
theorem nodup_set {α : Type} {L : List α} (h : L.Nodup) : ∀ {i j : Nat} {x : α}, L[i]? = some x → L[j]? = some x → i = j := fun {i j x} hi hj => (List.getElem?_inj (List.getElem?_eq_some_iff.mp hi).1 h).mp (hi.trans hj.symm)
theorem HS.set (H : HS Z h cs) {i : Nat} {b b' : Pc} (hi : cs[i]? = some (a, b)) (Wq : Wr h h' a sl v) (F : Ch Z h' a b') : HS Z h' (cs.set i (a, b')) := by
  have g := H.at hi
  refine ⟨⟨by rw [Wq.size]; exact H.1.1, fun x c q => ?_⟩, fun q hq => ?_, ?_⟩
  · obtain ⟨c', e1, -, -, -, e5, -⟩ := wr_at Wq (H.1.2 x c q)
    have ne : x ≠ a := fun e => by subst e; exact absurd (Array.getElem?_eq_some_iff.mp q).1 (Nat.not_lt.mpr g.1)
    rw [e5 ne] at e1; exact e1
  · obtain ⟨j, hj⟩ := List.mem_iff_getElem?.mp hq
    rw [List.getElem?_set] at hj
    split at hj
    · split at hj
      · cases hj; exact ⟨g.1, F⟩
      · cases hj
    · rename_i ne
      have m := H.2.1 q (List.mem_of_getElem? hj)
      refine ⟨m.1, m.2.other Wq fun e => ne ?_⟩
      refine nodup_set H.2.2 (x := a) (by simp [hi]) (by simp [hj, e])
  · have : ((cs.set i (a, b')).map fun q => q.1) = cs.map fun q => q.1 := by
      rw [List.map_set]
      refine List.ext_getElem? fun j => ?_
      rw [List.getElem?_set]
      split
      · rename_i e; subst e
        simp [hi]
        exact (List.getElem?_eq_some_iff.mp hi).1
      · rfl
    rw [this]; exact H.2.2
theorem HS.pull (H : HS Z h cs) (i : Nat) {q : Addr × Pc} (cs' : List (Addr × Pc)) (hi : cs[i]? = some q) (e : q :: cs.eraseIdx i = cs') : HS Z h cs' := by
  subst e
  obtain ⟨hlt, rfl⟩ := List.getElem?_eq_some_iff.mp hi
  have pm : (cs[i] :: cs.eraseIdx i).Perm cs := by
    rw [List.eraseIdx_eq_take_drop_succ]
    have e := List.take_append_drop i cs
    rw [List.drop_eq_getElem_cons hlt] at e
    exact List.perm_middle.symm.trans (List.Perm.of_eq e)
  exact ⟨H.1, fun q hq => H.2.1 q (pm.mem_iff.mp hq), (pm.map _).nodup_iff.mpr H.2.2⟩
theorem HS.drop (H : HS Z h cs) {cs' : List (Addr × Pc)} (s : cs'.Sublist cs) : HS Z h cs' := ⟨H.1, fun q hq => H.2.1 q (s.mem hq), H.2.2.sublist (s.map _)⟩
theorem HS.sta (H : HS Z h cs) {O n d : String} (S : Sta Z Z.heap O n d v) : Sta Z h O n d v := S.ext H.1
theorem HS.ne (H : HS Z h cs) {i j : Nat} {x : Addr} {b b' : Pc} (hi : cs[i]? = some (a, b)) (hj : cs[j]? = some (x, b')) (n : i ≠ j) : a ≠ x := fun e => n (nodup_set H.2.2 (x := a) (by simp [hi]) (by simp [hj, e]))
theorem HS.ne_old (H : HS Z h cs) {i : Nat} {x : Addr} {b : Pc} (hi : cs[i]? = some (a, b)) (hx : x < Z.heap.size) : a ≠ x := fun e => by subst e; exact absurd hx (Nat.not_lt.mpr (H.at hi).1)
theorem Ch.put {C O n d : String} {fs : List Fl} {j : Nat} {w : Value} (F : Ch Z h a (.inl (C, fs))) (hj : fs[j]? = some (O, n, d, w)) (lay : Lay Z fs) (Wq : Wr h h' a (Jvm.RoadKit.slotOf Z O n d) v) : Ch Z h' a (.inl (C, fs.set j (O, n, d, v))) := by
  refine ⟨F.1.wr Wq, fun f hf => ?_⟩
  obtain ⟨k, hk⟩ := List.mem_iff_getElem?.mp hf
  rw [List.getElem?_set] at hk
  split at hk
  · split at hk
    · cases hk; exact (F.2 _ (List.mem_of_getElem? hj)).same Wq
    · cases hk
  · rename_i ne
    refine (F.2 _ (List.mem_of_getElem? hk)).other Wq (Or.inr fun e => ne ?_)
    exact nodup_set lay (x := Jvm.RoadKit.slotOf Z O n d) (by simp [hj]) (by simp [hk, e])
theorem W.getF (ok : Ok Z K y code maxL ret) (tb : Tb Z a0 ts) {idx : Nat} {R0 O n d : String} (i1 : Nat) (w1 : ts[i1]? = some (.fieldLink y.cls idx R0 n d)) (via : Via Z R0 O n d) (F : Fld Z h a O n d v) (hd : decode code pc = .ok (.getfield idx, 3)) (pc' : Nat) (G : W l Z R K Q h cc ss pc' ls (v :: st)) (hp : pc + 3 = pc' := by rfl) :
    W l Z R K Q h cc ss pc ls (.ref a :: st) := by
  subst hp
  intro T L X N e
  obtain ⟨T', X', e', stp⟩ := Jvm.RoadKit.getF X ok.1 ok.2.1 ok.2.2.2.2.1 (host := "") (Or.inl (tb _ (List.mem_of_getElem? w1))) via e F (g := mkF K.m pc ls (.ref a :: st)) rfl rfl (hb ok.2.2.1 hd)
  exact Ends.step stp (G T' _ X' N e')
theorem W.getFN (ok : Ok Z K y code maxL ret) (tb : Tb Z a0 ts) {idx : Nat} {R0 O n d host : String} (i1 : Nat) (w1 : ts[i1]? = some (.fieldLinkNest y.cls idx R0 n d host)) (via : Via Z R0 O n d) (F : Fld Z h a O n d v) (hd : decode code pc = .ok (.getfield idx, 3)) (pc' : Nat) (G : W l Z R K Q h cc ss pc' ls (v :: st)) (hp : pc + 3 = pc' := by rfl) :
    W l Z R K Q h cc ss pc ls (.ref a :: st) := by
  subst hp
  intro T L X N e
  obtain ⟨T', X', e', stp⟩ := Jvm.RoadKit.getF X ok.1 ok.2.1 ok.2.2.2.2.1 (Or.inr (tb _ (List.mem_of_getElem? w1))) via e F (g := mkF K.m pc ls (.ref a :: st)) rfl rfl (hb ok.2.2.1 hd)
  exact Ends.step stp (G T' _ X' N e')
theorem W.getS (ok : Ok Z K y code maxL ret) (tb : Tb Z a0 ts) {idx : Nat} {R0 O n d : String} (i1 : Nat) (w1 : ts[i1]? = some (.fieldLink y.cls idx R0 n d)) (via : Via Z R0 O n d) (S : Sta Z h O n d v) (hd : decode code pc = .ok (.getstatic idx, 3)) (pc' : Nat) (G : W l Z R K Q h cc ss pc' ls (v :: st)) (hp : pc + 3 = pc' := by rfl) :
    W l Z R K Q h cc ss pc ls st := by
  subst hp
  intro T L X N e
  obtain ⟨T', X', e', stp⟩ := Jvm.RoadKit.getS X ok.1 ok.2.1 ok.2.2.2.2.1 (host := "") (tb _ (List.mem_of_getElem? w1)) via e S (g := mkF K.m pc ls st) rfl (hb ok.2.2.1 hd)
  exact Ends.step stp (G T' _ X' N e')
theorem W.getSN (ok : Ok Z K y code maxL ret) (tb : Tb Z a0 ts) {idx : Nat} {R0 O n d host : String} (i1 : Nat) (w1 : ts[i1]? = some (.fieldLinkNest y.cls idx R0 n d host)) (via : Via Z R0 O n d) (S : Sta Z h O n d v) (hd : decode code pc = .ok (.getstatic idx, 3)) (pc' : Nat) (G : W l Z R K Q h cc ss pc' ls (v :: st)) (hp : pc + 3 = pc' := by rfl) :
    W l Z R K Q h cc ss pc ls st := by
  subst hp
  intro T L X N e
  obtain ⟨T', X', e', stp⟩ := Jvm.RoadKit.getS2 X ok.1 ok.2.1 ok.2.2.2.2.1 (Or.inr (tb _ (List.mem_of_getElem? w1))) via e S (g := mkF K.m pc ls st) rfl (hb ok.2.2.1 hd)
  exact Ends.step stp (G T' _ X' N e')
/-- putfield into a piece; Lq: 'lays', or 'laysFinal' in a constructor -/
theorem W.putF (ok : Ok Z K y code maxL ret) (tb : Tb Z a0 ts) (H : HS Z h cs) {idx i j kk : Nat} {R0 C O n d : String} {fs : List Fl} {w0 w' : Value} {ty : FieldType} (hi : cs[i]? = some (a, .inl (C, fs))) (hj : fs[j]? = some (O, n, d, w0))
    (i1 i2 : Nat) (w1 : ts[i1]? = some (.fieldLink y.cls idx R0 n d)) (w2 : ts[i2]? = some (.instantiable C kk)) (via : Via Z R0 O n d) (Lq : (Jvm.Cond.lays C O n d).before a0 Z = true ∨ ((Jvm.Cond.laysFinal C O n d).before a0 Z = true ∧ y.cls = O ∧ y.name = "<init>")) (lay : Lay Z fs)
    (hty : parseFieldDescriptor d = some ty) (hn : narrow ty v = w') (hf : fits ty w' = true) (hd : decode code pc = .ok (.putfield idx, 3)) (pc' : Nat) (cs' : List (Addr × Pc)) (hcs : cs.set i (a, .inl (C, fs.set j (O, n, d, w'))) = cs') (G : ∀ h', HS Z h' cs' → W l Z R K Q h' cc ss pc' ls st) (hp : pc + 3 = pc' := by rfl) :
    W l Z R K Q h cc ss pc ls (v :: .ref a :: st) := by
  subst hp hcs
  intro T L X N e
  have g := H.at hi
  obtain ⟨T', h', X', e', W', stp⟩ := Jvm.RoadKit.putFN X ok.1 ok.2.1 ok.2.2.2.2.1 (tb _ (List.mem_of_getElem? w1)) via e (H.fld hi hj) (H.exa hi) (Lq.imp id fun q => ⟨q.1, q.2.1, ok.2.2.2.2.2.2.1.trans q.2.2⟩) (tb _ (List.mem_of_getElem? w2)) hty hn hf (g := mkF K.m pc ls (v :: .ref a :: st)) rfl rfl (hb ok.2.2.1 hd)
  exact Ends.step stp (G h' (H.set hi W' (g.2.put hj lay W')) T' _ X' (Fr.snoc X' N g.1) e')
theorem W.new (ok : Ok Z K y code maxL ret) (tb : Tb Z a0 ts) (H : HS Z h cs) {idx n : Nat} {C : String} (i1 i2 i3 : Nat) (w1 : ts[i1]? = some (.classLink y.cls idx C)) (w2 : ts[i2]? = some (.instantiable C n)) (w3 : ts[i3]? = some (.initialized C)) {fs : List Fl} (nw : Nw Z a0 C fs)
    (hd : decode code pc = .ok (.new idx, 3)) (cc' ss' pc' : Nat) (G : ∀ a h', HS Z h' ((a, .inl (C, fs)) :: cs) → W l Z R K Q h' cc' ss' pc' ls (.ref a :: st)) (hc : cc' ≤ R.cells := by decide) (hs : ss' ≤ R.slots := by decide) (hc' : cc + 1 = cc' := by rfl) (hs' : ss + n = ss' := by rfl) (hp : pc + 3 = pc' := by rfl) :
    W l Z R K Q h cc ss pc ls st := by
  subst hp hc' hs'
  intro T L X N e
  obtain ⟨T', h', X', e', E', A', D', -, stp⟩ := Jvm.RoadKit.newO X ok.1 ok.2.1 ok.2.2.2.2.1 (tb _ (List.mem_of_getElem? w1)) (tb _ (List.mem_of_getElem? w2)) (tb _ (List.mem_of_getElem? w3)) e (g := mkF K.m pc ls st) rfl (hb ok.2.2.1 hd) hc hs
  refine Ends.step stp (G h.size h' (H.add E' ⟨A', fun f hf => ?_⟩) T' _ X' N e')
  obtain ⟨L1, ty, t1, t2⟩ := nw f hf
  have q := D' L1 t1
  rw [t2] at q
  exact q
theorem len_eq {c : Cell} {vs : List Value} (e : c.slots.toList = vs) : c.slots.size = vs.length := by rw [← e]; simp
theorem at_eq {c : Cell} {vs : List Value} (e : c.slots.toList = vs) (k : Nat) : c.slots[k]? = vs[k]? := by rw [← e]; simp
theorem in_of {c : Cell} {vs : List Value} {j : Int32} (e : c.slots.toList = vs) (hj : ¬ j < 0) (hv : j.toNatClampNeg < vs.length) : ¬ (j < 0 ∨ c.slots.size ≤ j.toNatClampNeg) := by
  rw [len_eq e]; exact fun q => q.elim hj (by omega)
theorem lt_of_at {vs : List Value} {k : Nat} (hv : vs[k]? = some v) : k < vs.length := (List.getElem?_eq_some_iff.mp hv).1
theorem W.newP (ok : Ok Z K y code maxL ret) (tb : Tb Z a0 ts) (H : HS Z h cs) {aty : ArrayType} {n : Int32} (i1 : Nat) (w1 : ts[i1]? = some (.arrayClass (newarray.typeOf aty))) (hd : decode code pc = .ok (.newarray aty, 2)) (cap : Nat) (vs : List Value) (hvs : List.replicate n.toNatClampNeg (defaultValue (newarray.typeOf aty)) = vs) (cc' ss' pc' : Nat)
    (hn : ¬ n < 0) (hcap : n.toNatClampNeg ≤ cap) (G : ∀ a k h', HS Z h' ((a, .inr (newarray.typeOf aty, k, vs)) :: cs) → W l Z R K Q h' cc' ss' pc' ls (.ref a :: st))
    (hb' : cap * 8 ≤ 536870912 := by decide) (hc : cc' ≤ R.cells := by decide) (hs : ss' ≤ R.slots := by decide) (hc' : cc + 1 = cc' := by rfl) (hs' : ss + cap = ss' := by rfl) (hp : pc + 2 = pc' := by rfl) :
    W l Z R K Q h cc ss pc ls (.int n :: st) := by
  subst hp hc' hs' hvs
  intro T L X N e
  obtain ⟨T', h', k, X', e', E', A', stp⟩ := Jvm.RoadKit.newP X ok.1 ok.2.1 (tb _ (List.mem_of_getElem? w1)) e (g := mkF K.m pc ls (.int n :: st)) rfl (hb ok.2.2.1 hd) rfl hn hcap hb' hc hs
  exact Ends.step stp (G h.size k h' (H.add E' ⟨_, A', rfl, by simp [newA]⟩) T' _ X' N e')
theorem W.newR (ok : Ok Z K y code maxL ret) (tb : Tb Z a0 ts) (H : HS Z h cs) {idx : Nat} {C : String} {n : Int32} (i1 i2 : Nat) (w1 : ts[i1]? = some (.classLink y.cls idx C)) (w2 : ts[i2]? = some (.arrayOver (.object C))) (hd : decode code pc = .ok (.anewarray idx, 3)) (cap : Nat) (vs : List Value) (hvs : List.replicate n.toNatClampNeg Value.null = vs) (cc' ss' pc' : Nat)
    (hn : ¬ n < 0) (hcap : n.toNatClampNeg ≤ cap) (G : ∀ a k h', Ovr Z k C → HS Z h' ((a, .inr (.object C, k, vs)) :: cs) → W l Z R K Q h' cc' ss' pc' ls (.ref a :: st))
    (hb' : cap * 8 ≤ 536870912 := by decide) (hc : cc' ≤ R.cells := by decide) (hs : ss' ≤ R.slots := by decide) (hc' : cc + 1 = cc' := by rfl) (hs' : ss + cap = ss' := by rfl) (hp : pc + 3 = pc' := by rfl) :
    W l Z R K Q h cc ss pc ls (.int n :: st) := by
  subst hp hc' hs' hvs
  intro T L X N e
  obtain ⟨T', h', k, X', e', E', A', O', stp⟩ := Jvm.RoadKit.newR X ok.1 ok.2.1 ok.2.2.2.2.1 (tb _ (List.mem_of_getElem? w1)) (tb _ (List.mem_of_getElem? w2)) e (g := mkF K.m pc ls (.int n :: st)) rfl (hb ok.2.2.1 hd) rfl hn hcap hb' hc hs
  exact Ends.step stp (G h.size k h' O' (H.add E' ⟨_, A', rfl, by simp [newA, defaultValue]⟩) T' _ X' N e')
theorem W.alen (ok : Ok Z K y code maxL ret) (H : HS Z h cs) {i : Nat} {ty : FieldType} {k : ClassId} {vs : List Value} (hi : cs[i]? = some (a, .inr (ty, k, vs))) (hd : decode code pc = .ok (.arraylength, 1)) (pc' : Nat) (n : Int32) (hn : vs.length.toInt32 = n) (G : W l Z R K Q h cc ss pc' ls (.int n :: st)) (hp : pc + 1 = pc' := by rfl) :
    W l Z R K Q h cc ss pc ls (.ref a :: st) := by
  subst hp hn
  intro T L X N e
  obtain ⟨c, A, -, q⟩ := (H.at hi).2
  refine Ends.step (fun t kt => X.arraylength ok.1 (by rw [e]; exact A.1) (State.isArrayOf_alike ok.2.1.alike A.2.1) (g := mkF K.m pc ls (.ref a :: st)) rfl rfl (hb ok.2.2.1 hd) _ ?_) (G T _ X N e)
  rw [len_eq q]; exact kt
theorem W.iald (ok : Ok Z K y code maxL ret) (H : HS Z h cs) {i : Nat} {k : ClassId} {vs : List Value} {j : Int32} (hi : cs[i]? = some (a, .inr (.int, k, vs))) (hj : ¬ j < 0) (hv : vs[j.toNatClampNeg]? = some v) (hd : decode code pc = .ok (.iaload, 1)) (pc' : Nat) (G : W l Z R K Q h cc ss pc' ls (v :: st)) (hp : pc + 1 = pc' := by rfl) :
    W l Z R K Q h cc ss pc ls (.int j :: .ref a :: st) := by
  subst hp
  intro T L X N e
  obtain ⟨c, A, -, q⟩ := (H.at hi).2
  exact Ends.step (fun t kt => X.iaload ok.1 (j := j) (v := v) (by rw [e]; exact A.1) (State.isArrayOf_alike ok.2.1.alike A.2.1) A.2.2 (in_of q hj (lt_of_at hv)) ((at_eq q _).trans hv) (g := mkF K.m pc ls (.int j :: .ref a :: st)) rfl rfl (hb ok.2.2.1 hd) _ kt) (G T _ X N e)
theorem W.cald (ok : Ok Z K y code maxL ret) (H : HS Z h cs) {i : Nat} {k : ClassId} {vs : List Value} {j : Int32} (hi : cs[i]? = some (a, .inr (.char, k, vs))) (hj : ¬ j < 0) (hv : vs[j.toNatClampNeg]? = some v) (hd : decode code pc = .ok (.caload, 1)) (pc' : Nat) (G : W l Z R K Q h cc ss pc' ls (v :: st)) (hp : pc + 1 = pc' := by rfl) :
    W l Z R K Q h cc ss pc ls (.int j :: .ref a :: st) := by
  subst hp
  intro T L X N e
  obtain ⟨c, A, -, q⟩ := (H.at hi).2
  exact Ends.step (fun t kt => X.caload ok.1 (j := j) (v := v) (by rw [e]; exact A.1) (State.isArrayOf_alike ok.2.1.alike A.2.1) A.2.2 (in_of q hj (lt_of_at hv)) ((at_eq q _).trans hv) (g := mkF K.m pc ls (.int j :: .ref a :: st)) rfl rfl (hb ok.2.2.1 hd) _ kt) (G T _ X N e)
theorem W.bald (ok : Ok Z K y code maxL ret) (H : HS Z h cs) {i : Nat} {k : ClassId} {vs : List Value} {j : Int32} (hi : cs[i]? = some (a, .inr (.byte, k, vs))) (hj : ¬ j < 0) (hv : vs[j.toNatClampNeg]? = some v) (hd : decode code pc = .ok (.baload, 1)) (pc' : Nat) (G : W l Z R K Q h cc ss pc' ls (v :: st)) (hp : pc + 1 = pc' := by rfl) :
    W l Z R K Q h cc ss pc ls (.int j :: .ref a :: st) := by
  subst hp
  intro T L X N e
  obtain ⟨c, A, -, q⟩ := (H.at hi).2
  exact Ends.step (fun t kt => X.baloadBytes ok.1 (j := j) (v := v) (by rw [e]; exact A.1) (State.isArrayOf_alike ok.2.1.alike A.2.1) A.2.2 (in_of q hj (lt_of_at hv)) ((at_eq q _).trans hv) (g := mkF K.m pc ls (.int j :: .ref a :: st)) rfl rfl (hb ok.2.2.1 hd) _ kt) (G T _ X N e)
theorem W.zald (ok : Ok Z K y code maxL ret) (H : HS Z h cs) {i : Nat} {k : ClassId} {vs : List Value} {j : Int32} (hi : cs[i]? = some (a, .inr (.boolean, k, vs))) (hj : ¬ j < 0) (hv : vs[j.toNatClampNeg]? = some v) (hd : decode code pc = .ok (.baload, 1)) (pc' : Nat) (G : W l Z R K Q h cc ss pc' ls (v :: st)) (hp : pc + 1 = pc' := by rfl) :
    W l Z R K Q h cc ss pc ls (.int j :: .ref a :: st) := by
  subst hp
  intro T L X N e
  obtain ⟨c, A, -, q⟩ := (H.at hi).2
  exact Ends.step (fun t kt => X.baloadBooleans ok.1 (j := j) (v := v) (by rw [e]; exact A.1) (State.isArrayOf_alike ok.2.1.alike A.2.1) A.2.2 (in_of q hj (lt_of_at hv)) ((at_eq q _).trans hv) (g := mkF K.m pc ls (.int j :: .ref a :: st)) rfl rfl (hb ok.2.2.1 hd) _ kt) (G T _ X N e)
theorem W.aald (ok : Ok Z K y code maxL ret) (H : HS Z h cs) {i : Nat} {ty : FieldType} {k : ClassId} {vs : List Value} {j : Int32} (hi : cs[i]? = some (a, .inr (ty, k, vs))) (hj : ¬ j < 0) (hv : vs[j.toNatClampNeg]? = some v) (hd : decode code pc = .ok (.aaload, 1)) (pc' : Nat) (G : W l Z R K Q h cc ss pc' ls (v :: st)) (hty : ty.isReference = true := by rfl) (hp : pc + 1 = pc' := by rfl) :
    W l Z R K Q h cc ss pc ls (.int j :: .ref a :: st) := by
  subst hp
  intro T L X N e
  obtain ⟨c, A, -, q⟩ := (H.at hi).2
  exact Ends.step (fun t kt => X.aaload ok.1 (j := j) (v := v) (by rw [e]; exact A.1) (State.isArrayOf_alike ok.2.1.alike A.2.1) hty A.2.2 (in_of q hj (lt_of_at hv)) ((at_eq q _).trans hv) (g := mkF K.m pc ls (.int j :: .ref a :: st)) rfl rfl (hb ok.2.2.1 hd) _ kt) (G T _ X N e)
theorem Ch.aput {ty : FieldType} {k : ClassId} {vs : List Value} {n : Nat} {c : Cell} (A : Arr Z h a c ty) (e1 : c.cls = k) (e2 : c.slots.toList = vs) (Wq : Wr h h' a n v) : Ch Z h' a (.inr (ty, k, vs.set n v)) :=
  ⟨_, A.same Wq, e1, by subst e2; simp [Cell.setSlot]⟩
theorem W.iast (ok : Ok Z K y code maxL ret) (H : HS Z h cs) {i : Nat} {k : ClassId} {vs : List Value} {j x : Int32} (hi : cs[i]? = some (a, .inr (.int, k, vs))) (hj : ¬ j < 0) (hv : j.toNatClampNeg < vs.length) (hd : decode code pc = .ok (.iastore, 1)) (pc' : Nat) (cs' : List (Addr × Pc)) (hcs : cs.set i (a, .inr (.int, k, vs.set j.toNatClampNeg (.int x))) = cs') (G : ∀ h', HS Z h' cs' → W l Z R K Q h' cc ss pc' ls st) (hp : pc + 1 = pc' := by rfl) :
    W l Z R K Q h cc ss pc ls (.int x :: .int j :: .ref a :: st) := by
  subst hp hcs
  intro T L X N e
  have g := H.at hi
  obtain ⟨c, A, e1, e2⟩ := g.2
  obtain ⟨T', h', X', e', W', stp⟩ := Jvm.RoadKit.stI X ok.1 ok.2.1 e A (j := j) (in_of e2 hj hv) (g := mkF K.m pc ls (.int x :: .int j :: .ref a :: st)) rfl rfl (hb ok.2.2.1 hd)
  exact Ends.step stp (G h' (H.set hi W' (Ch.aput A e1 e2 W')) T' _ X' (Fr.snoc X' N g.1) e')
theorem W.cast (ok : Ok Z K y code maxL ret) (H : HS Z h cs) {i : Nat} {k : ClassId} {vs : List Value} {j x : Int32} (hi : cs[i]? = some (a, .inr (.char, k, vs))) (hj : ¬ j < 0) (hv : j.toNatClampNeg < vs.length) (w : Int32) (hw : (nar .char x) = w) (hd : decode code pc = .ok (.castore, 1)) (pc' : Nat) (cs' : List (Addr × Pc)) (hcs : cs.set i (a, .inr (.char, k, vs.set j.toNatClampNeg (.int w))) = cs') (G : ∀ h', HS Z h' cs' → W l Z R K Q h' cc ss pc' ls st) (hp : pc + 1 = pc' := by rfl) :
    W l Z R K Q h cc ss pc ls (.int x :: .int j :: .ref a :: st) := by
  subst hp hw hcs
  intro T L X N e
  have g := H.at hi
  obtain ⟨c, A, e1, e2⟩ := g.2
  obtain ⟨T', h', X', e', W', stp⟩ := Jvm.RoadKit.stC X ok.1 ok.2.1 e A (j := j) (in_of e2 hj hv) (g := mkF K.m pc ls (.int x :: .int j :: .ref a :: st)) rfl rfl (hb ok.2.2.1 hd)
  exact Ends.step stp (G h' (H.set hi W' (Ch.aput A e1 e2 W')) T' _ X' (Fr.snoc X' N g.1) e')
theorem W.bast (ok : Ok Z K y code maxL ret) (H : HS Z h cs) {i : Nat} {k : ClassId} {vs : List Value} {j x : Int32} (hi : cs[i]? = some (a, .inr (.byte, k, vs))) (hj : ¬ j < 0) (hv : j.toNatClampNeg < vs.length) (w : Int32) (hw : (nar .byte x) = w) (hd : decode code pc = .ok (.bastore, 1)) (pc' : Nat) (cs' : List (Addr × Pc)) (hcs : cs.set i (a, .inr (.byte, k, vs.set j.toNatClampNeg (.int w))) = cs') (G : ∀ h', HS Z h' cs' → W l Z R K Q h' cc ss pc' ls st) (hp : pc + 1 = pc' := by rfl) :
    W l Z R K Q h cc ss pc ls (.int x :: .int j :: .ref a :: st) := by
  subst hp hw hcs
  intro T L X N e
  have g := H.at hi
  obtain ⟨c, A, e1, e2⟩ := g.2
  obtain ⟨T', h', X', e', W', stp⟩ := Jvm.RoadKit.stB X ok.1 ok.2.1 e A (j := j) (in_of e2 hj hv) (g := mkF K.m pc ls (.int x :: .int j :: .ref a :: st)) rfl rfl (hb ok.2.2.1 hd)
  exact Ends.step stp (G h' (H.set hi W' (Ch.aput A e1 e2 W')) T' _ X' (Fr.snoc X' N g.1) e')
theorem W.zast (ok : Ok Z K y code maxL ret) (H : HS Z h cs) {i : Nat} {k : ClassId} {vs : List Value} {j x : Int32} (hi : cs[i]? = some (a, .inr (.boolean, k, vs))) (hj : ¬ j < 0) (hv : j.toNatClampNeg < vs.length) (w : Int32) (hw : (nar .boolean x) = w) (hd : decode code pc = .ok (.bastore, 1)) (pc' : Nat) (cs' : List (Addr × Pc)) (hcs : cs.set i (a, .inr (.boolean, k, vs.set j.toNatClampNeg (.int w))) = cs') (G : ∀ h', HS Z h' cs' → W l Z R K Q h' cc ss pc' ls st) (hp : pc + 1 = pc' := by rfl) :
    W l Z R K Q h cc ss pc ls (.int x :: .int j :: .ref a :: st) := by
  subst hp hw hcs
  intro T L X N e
  have g := H.at hi
  obtain ⟨c, A, e1, e2⟩ := g.2
  obtain ⟨T', h', X', e', W', stp⟩ := Jvm.RoadKit.stZ X ok.1 ok.2.1 e A (j := j) (in_of e2 hj hv) (g := mkF K.m pc ls (.int x :: .int j :: .ref a :: st)) rfl rfl (hb ok.2.2.1 hd)
  exact Ends.step stp (G h' (H.set hi W' (Ch.aput A e1 e2 W')) T' _ X' (Fr.snoc X' N g.1) e')
theorem W.aast (ok : Ok Z K y code maxL ret) (H : HS Z h cs) {i : Nat} {ty : FieldType} {k : ClassId} {vs : List Value} {j : Int32} (hi : cs[i]? = some (a, .inr (ty, k, vs))) (hj : ¬ j < 0) (hv : j.toNatClampNeg < vs.length) (S : Sto Z h a v) (hd : decode code pc = .ok (.aastore, 1)) (pc' : Nat) (cs' : List (Addr × Pc)) (hcs : cs.set i (a, .inr (ty, k, vs.set j.toNatClampNeg v)) = cs') (G : ∀ h', HS Z h' cs' → W l Z R K Q h' cc ss pc' ls st) (hty : ty.isReference = true := by rfl) (hp : pc + 1 = pc' := by rfl) :
    W l Z R K Q h cc ss pc ls (v :: .int j :: .ref a :: st) := by
  subst hp hcs
  intro T L X N e
  have g := H.at hi
  obtain ⟨c, A, e1, e2⟩ := g.2
  obtain ⟨T', h', X', e', W', stp⟩ := Jvm.RoadKit.stR X ok.1 ok.2.1 e A (j := j) (in_of e2 hj hv) hty S (g := mkF K.m pc ls (v :: .int j :: .ref a :: st)) rfl rfl (hb ok.2.2.1 hd)
  exact Ends.step stp (G h' (H.set hi W' (Ch.aput A e1 e2 W')) T' _ X' (Fr.snoc X' N g.1) e')
theorem HS.sto (H : HS Z h cs) {i : Nat} {ty : FieldType} {k : ClassId} {vs : List Value} {C : String} {x : Addr} (hi : cs[i]? = some (a, .inr (ty, k, vs))) (O : Ovr Z k C) (I : Ins Z h x C true) : Sto Z h a (.ref x) := by
  obtain ⟨c, A, e1, -⟩ := (H.at hi).2
  exact Sto.of A (e1 ▸ O) I
theorem W.castY (ok : Ok Z K y code maxL ret) (tb : Tb Z a0 ts) {idx : Nat} {C : String} (i1 : Nat) (w1 : ts[i1]? = some (.classLink y.cls idx C)) (F : Ins Z h a C true) (hd : decode code pc = .ok (.checkcast idx, 3)) (pc' : Nat) (G : W l Z R K Q h cc ss pc' ls (.ref a :: st)) (hp : pc + 3 = pc' := by rfl) :
    W l Z R K Q h cc ss pc ls (.ref a :: st) := by
  subst hp
  intro T L X N e
  obtain ⟨T', X', e', stp⟩ := Jvm.RoadKit.castY X ok.1 ok.2.1 ok.2.2.2.2.1 (tb _ (List.mem_of_getElem? w1)) e F (g := mkF K.m pc ls (.ref a :: st)) rfl rfl (hb ok.2.2.1 hd)
  exact Ends.step stp (G T' _ X' N e')
theorem W.instY (ok : Ok Z K y code maxL ret) (tb : Tb Z a0 ts) {idx : Nat} {C : String} (i1 : Nat) (w1 : ts[i1]? = some (.classLink y.cls idx C)) (F : Ins Z h a C true) (hd : decode code pc = .ok (.instanceof idx, 3)) (pc' : Nat) (G : W l Z R K Q h cc ss pc' ls (.int 1 :: st)) (hp : pc + 3 = pc' := by rfl) :
    W l Z R K Q h cc ss pc ls (.ref a :: st) := by
  subst hp
  intro T L X N e
  obtain ⟨T', X', e', stp⟩ := Jvm.RoadKit.instY X ok.1 ok.2.1 ok.2.2.2.2.1 (tb _ (List.mem_of_getElem? w1)) e F (g := mkF K.m pc ls (.ref a :: st)) rfl rfl (hb ok.2.2.1 hd)
  exact Ends.step stp (G T' _ X' N e')
theorem W.castN (ok : Ok Z K y code maxL ret) {idx : Nat} (hd : decode code pc = .ok (.checkcast idx, 3)) (pc' : Nat) (G : W l Z R K Q h cc ss pc' ls (.null :: st)) (hp : pc + 3 = pc' := by rfl) : W l Z R K Q h cc ss pc ls (.null :: st) := by
  subst hp
  exact fun T L X N e => Ends.step (fun t k => X.checkcastNull ok.1 (g := mkF K.m pc ls (.null :: st)) rfl rfl (hb ok.2.2.1 hd) _ k) (G T L X N e)
theorem W.instN (ok : Ok Z K y code maxL ret) {idx : Nat} (hd : decode code pc = .ok (.instanceof idx, 3)) (pc' : Nat) (G : W l Z R K Q h cc ss pc' ls (.int 0 :: st)) (hp : pc + 3 = pc' := by rfl) : W l Z R K Q h cc ss pc ls (.null :: st) := by
  subst hp
  exact fun T L X N e => Ends.step (fun t k => X.instanceofNull ok.1 (g := mkF K.m pc ls (.null :: st)) rfl rfl (hb ok.2.2.1 hd) _ k) (G T L X N e)
end Walk
end Jvm.Own
namespace Jvm.Own
open Sem ClassFile Op Lib Jvm.Stand Jvm.Free Jvm.LawKit Jvm.RoadKit
section More
variable {l : Launch} {Z : State} {R : Room} {K : Ctx} {Q : Option Value → Heap → Prop} {h : Heap} {cc ss pc : Nat} {ls : Array Slot} {st : List Value} {y : MethodName} {code : ByteArray} {maxL : Nat} {ret : Option FieldType} {a0 : Array Value} {ts : List Jvm.Cond} {cs : List (Addr × Pc)} {h' : Heap} {a : Addr} {sl : Nat} {v : Value}
theorem HS.upd (H : HS Z h cs) {i : Nat} {b b' : Pc} (hi : cs[i]? = some (a, b)) (hE : Ext Z.heap h') (ho : ∀ q ∈ cs, q.1 ≠ a → Ch Z h' q.1 q.2) (F : Ch Z h' a b') : HS Z h' (cs.set i (a, b')) := by
  have g := H.at hi
  refine ⟨hE, fun q hq => ?_, ?_⟩
  · obtain ⟨j, hj⟩ := List.mem_iff_getElem?.mp hq
    rw [List.getElem?_set] at hj
    split at hj
    · split at hj
      · cases hj; exact ⟨g.1, F⟩
      · cases hj
    · rename_i ne
      have m := H.2.1 q (List.mem_of_getElem? hj)
      refine ⟨m.1, ho q (List.mem_of_getElem? hj) fun e => ne ?_⟩
      refine nodup_set H.2.2 (x := a) (by simp [hi]) (by simp [hj, e])
  · have : ((cs.set i (a, b')).map fun q => q.1) = cs.map fun q => q.1 := by
      rw [List.map_set]
      refine List.ext_getElem? fun j => ?_
      rw [List.getElem?_set]
      split
      · rename_i e; subst e
        simp [hi]
        exact (List.getElem?_eq_some_iff.mp hi).1
      · rfl
    rw [this]; exact H.2.2
theorem Ch.keep {b : Pc} {ws : List Addr} (Kp : Keep h h' ws) (ne : a ∉ ws) (F : Ch Z h a b) : Ch Z h' a b := by
  rcases b with q | q
  · exact ⟨F.1.keep Kp, fun f hf => (F.2 f hf).keep Kp ne⟩
  · obtain ⟨c, A, r⟩ := F; exact ⟨c, ⟨Kp.2.1 a c A.1 ne, A.2⟩, r⟩
theorem Ch.arv {ty : FieldType} {k : ClassId} {vs : List Value} (F : Ch Z h a (.inr (ty, k, vs))) (hl : vs.length < 2 ^ 31) (hf : ∀ v ∈ vs, fits ty v = true) (d : Value) : Arv Z h a k ty vs.length.toInt32 vs d := by
  obtain ⟨c, A, e1, e2⟩ := F
  have e2 : c.slots.toList = vs := e2
  have hz : (vs.length.toInt32).toInt = (vs.length : Int) := len_toInt hl
  refine ⟨c, A, e1, ?_, ?_, ?_, ?_⟩
  · rw [len_eq e2, Int32.toNatClampNeg]; omega
  · rw [Int32.lt_iff_toInt_lt]; simp only [Int32.reduceToInt]; omega
  · intro i hi
    rw [at_eq e2, List.getD_eq_getElem?_getD]
    rw [len_eq e2] at hi
    simp [List.getElem?_eq_getElem hi]
  · intro i hi
    rw [len_eq e2] at hi
    rw [List.getD_eq_getElem?_getD, List.getElem?_eq_getElem hi]
    exact hf _ (List.getElem_mem hi)
theorem Ch.of_arv {ty : FieldType} {k : ClassId} {n : Int32} {vs : List Value} {d : Value} (F : Arv Z h a k ty n vs d) (hl : n.toNatClampNeg = vs.length) : Ch Z h a (.inr (ty, k, vs)) := by
  obtain ⟨c, A, e1, e2, -, hH, -⟩ := F
  refine ⟨c, A, e1, ?_⟩
  show c.slots.toList = vs
  refine List.ext_getElem? fun i => ?_
  by_cases hi : i < c.slots.size
  · have q := hH i hi
    have hv : i < vs.length := by omega
    rw [List.getD_eq_getElem?_getD, List.getElem?_eq_getElem hv] at q
    rw [List.getElem?_eq_getElem hv]
    simpa using q
  · rw [List.getElem?_eq_none (by simpa using hi), List.getElem?_eq_none (by omega)]
theorem W.acopy (ok : Ok Z K y code maxL ret) (tb : Tb Z a0 ts) (H : HS Z h cs) {idx i j : Nat} {b : Addr} {ty ty' : FieldType} {k k' : ClassId} {vs vd : List Value} {sp dp nn : Int32} (hi : cs[i]? = some (a, .inr (ty, k, vs))) (hj : cs[j]? = some (b, .inr (ty', k', vd)))
    (i1 i2 i3 i4 : Nat) (w1 : ts[i1]? = some (.methodLink y.cls idx Jvm.Stand.acN)) (w2 : ts[i2]? = some (.native Jvm.Stand.acN)) (w3 : ts[i3]? = some (.static Jvm.Stand.acN)) (w4 : ts[i4]? = some (.initialized "java/lang/System"))
    (us : List Value) (hr : (ty = ty' ∧ refKind ty = false) ∨ (refKind ty = true ∧ refKind ty' = true ∧ StoL Z h b us)) (h1 : ¬ sp < 0) (h2 : ¬ dp < 0) (h3 : ¬ nn < 0) (h4 : sp.toNatClampNeg + nn.toNatClampNeg ≤ vs.length) (h5 : dp.toNatClampNeg + nn.toNatClampNeg ≤ vd.length)
    (hus : us = (List.range nn.toNatClampNeg).map fun t => vs.getD (sp.toNatClampNeg + t) .null) (hls : vs.length < 2 ^ 31) (hld : vd.length < 2 ^ 31) (hfs : ∀ v ∈ vs, fits ty v = true) (hfd : ∀ v ∈ vd, fits ty' v = true)
    (hd : decode code pc = .ok (.invokestatic idx, 3)) (wgt pc' : Nat) (cs' : List (Addr × Pc)) (hcs : cs.set j (b, .inr (ty', k', vd.take dp.toNatClampNeg ++ us ++ vd.drop (dp.toNatClampNeg + nn.toNatClampNeg))) = cs') (G : ∀ h', HS Z h' cs' → W l Z R K Q h' cc ss pc' ls st)
    (hW : (st.map fun v => v.category).sum ≤ wgt := by exact Nat.le_refl _) (hf : 1 ≤ R.frames := by decide) (hlo : wgt + (nativeFrameWords "java/lang/System" "arraycopy" 5 + 11) ≤ R.locals := by decide) (hsz : ls.size = maxL := by rfl) (hp : pc + 3 = pc' := by rfl) :
    W l Z R K Q h cc ss pc ls (.int nn :: .int dp :: .ref b :: .int sp :: .ref a :: st) := by
  subst hp hcs
  intro T L X N e
  have zs : (vs.length.toInt32).toNatClampNeg = vs.length := by have := len_toInt hls; rw [Int32.toNatClampNeg]; omega
  have zd : (vd.length.toInt32).toNatClampNeg = vd.length := by have := len_toInt hld; rw [Int32.toNatClampNeg]; omega
  obtain ⟨T', h', L', X', e', N', Kp, A', stp⟩ := Jvm.RoadKit.cpA X ok.1 ok.2.1 ok.2.2.2.2.1 (tb _ (List.mem_of_getElem? w1)) (tb _ (List.mem_of_getElem? w2)) (tb _ (List.mem_of_getElem? w3)) (tb _ (List.mem_of_getElem? w4)) e
    ((H.at hi).2.arv hls hfs .null) ((H.at hj).2.arv hld hfd .null) hr h1 h2 h3 (by rw [zs]; exact h4) (by rw [zd]; exact h5) hus h5 N (H.at hj).1 (g := mkF K.m pc ls (.int nn :: .int dp :: .ref b :: .int sp :: .ref a :: st)) rfl (hsz.trans ok.2.2.2.1.symm) rfl (hb ok.2.2.1 hd) hf (W := wgt) (by simpa using hW) hlo
  have hlen : us.length = nn.toNatClampNeg := by rw [hus]; simp
  have gb := (H.at hj).1
  refine Ends.step stp (G h' (H.upd hj ⟨Nat.le_trans H.1.1 Kp.1, fun x c q => Kp.2.1 x c (H.1.2 x c q) fun hm => ?_⟩ (fun q hq ne => (H.2.1 q hq).2.keep Kp (fun hm => ne (List.mem_singleton.mp hm))) (Ch.of_arv A' ?_)) T' _ X' N' e')
  · rw [List.mem_singleton] at hm
    subst hm
    exact absurd (Array.getElem?_eq_some_iff.mp q).1 (Nat.not_lt.mpr gb)
  · rw [zd]; simp [hlen]; omega
/-- a new array of references, with its class's name -/
theorem W.newRE (ok : Ok Z K y code maxL ret) (tb : Tb Z a0 ts) (H : HS Z h cs) {idx : Nat} {C ad : String} {n : Int32} (i1 i2 : Nat) (w1 : ts[i1]? = some (.classLink y.cls idx C)) (w2 : ts[i2]? = some (.arrayOver (.object C))) (hd : decode code pc = .ok (.anewarray idx, 3)) (cap : Nat) (vs : List Value) (hvs : List.replicate n.toNatClampNeg Value.null = vs) (cc' ss' pc' : Nat)
    (hn : ¬ n < 0) (hcap : n.toNatClampNeg ≤ cap) (had : "[" ++ (FieldType.object C).toString = ad) (G : ∀ a k h', Ovr Z k C → Z.vm.findClass ad = some k → HS Z h' ((a, .inr (.object C, k, vs)) :: cs) → W l Z R K Q h' cc' ss' pc' ls (.ref a :: st))
    (hb' : cap * 8 ≤ 536870912 := by decide) (hc : cc' ≤ R.cells := by decide) (hs : ss' ≤ R.slots := by decide) (hc' : cc + 1 = cc' := by rfl) (hs' : ss + cap = ss' := by rfl) (hp : pc + 3 = pc' := by rfl) :
    W l Z R K Q h cc ss pc ls (.int n :: st) := by
  subst hp hc' hs' hvs
  intro T L X N e
  obtain ⟨T', h', k, X', e', E', A', Ex, O', stp⟩ := Jvm.RoadKit.newRE X ok.1 ok.2.1 ok.2.2.2.2.1 (tb _ (List.mem_of_getElem? w1)) (tb _ (List.mem_of_getElem? w2)) e (g := mkF K.m pc ls (.int n :: st)) rfl (hb ok.2.2.1 hd) rfl hn hcap hb' hc hs had
  obtain ⟨cell, kc, q1, q2, -⟩ := Ex
  cases A'.1.symm.trans q1
  exact Ends.step stp (G h.size k h' O' q2 (H.add E' ⟨_, A', rfl, by simp [newA, defaultValue]⟩) T' _ X' N e')
theorem HS.exaA (H : HS Z h cs) {i : Nat} {ty : FieldType} {k : ClassId} {vs : List Value} {C : String} (hi : cs[i]? = some (a, .inr (ty, k, vs))) (hk : Z.vm.findClass C = some k) : Exa Z h a C := by
  obtain ⟨c, A, e1, -⟩ := (H.at hi).2
  obtain ⟨h1, k2, h2, comp, h3⟩ := A.2.1
  exact ⟨c, k2, A.1, by rw [e1]; exact hk, h2, A.plain, fun q => by rw [h3] at q; cases q⟩
def Mr (Z : State) (C : String) (mr : Addr) : Prop := ∃ (c : ClassId) (k : Class), Z.vm.findClass C = some c ∧ Z.vm.classes[c]? = some k ∧ k.mirror = some mr
theorem W.gcls (ok : Ok Z K y code maxL ret) (tb : Tb Z a0 ts) {idx : Nat} {C : String} {mr : Addr} (i1 i2 i3 i4 i5 : Nat) (w1 : ts[i1]? = some (.methodLink y.cls idx Jvm.Stand.gcN)) (w2 : ts[i2]? = some (.declares Jvm.Stand.gcN)) (w3 : ts[i3]? = some (.selects C Jvm.Stand.gcN Jvm.Stand.gcN)) (w4 : ts[i4]? = some (.instanceMethod Jvm.Stand.gcN)) (w5 : ts[i5]? = some (.native Jvm.Stand.gcN))
    (E : Exa Z h a C) (M : Mr Z C mr) (hd : decode code pc = .ok (.invokevirtual idx, 3)) (wgt pc' : Nat) (G : W l Z R K Q h cc ss pc' ls (.ref mr :: st))
    (hW : (st.map fun v => v.category).sum ≤ wgt := by exact Nat.le_refl _) (hf : 1 ≤ R.frames := by decide) (hlo : wgt + (nativeFrameWords "java/lang/Object" "getClass" 1 + 11) ≤ R.locals := by decide) (hsz : ls.size = maxL := by rfl) (hp : pc + 3 = pc' := by rfl) :
    W l Z R K Q h cc ss pc ls (.ref a :: st) := by
  subst hp
  intro T L X N e
  obtain ⟨cB, kB, i1, i2, i3⟩ := isOf (T := T) ok.2.1 e E
  obtain ⟨cc', kc, m1, m2, m3⟩ := M
  have i1' := i1
  rw [ok.2.1.alike.findClass] at i1'
  cases i1'.symm.trans m1
  obtain ⟨k', q, ek⟩ := ok.2.1.alike.2.2 _ _ m2
  obtain ⟨vm', X', stp⟩ := X.getClassOf ok.1 ok.2.2.2.2.1 (mvT ok.2.1 (tb _ (List.mem_of_getElem? w1))) (mvT ok.2.1 (tb _ (List.mem_of_getElem? w2))) (notFace_of_selects (args := #[]) (mvT ok.2.1 (tb _ (List.mem_of_getElem? w3)))) (mvT ok.2.1 (tb _ (List.mem_of_getElem? w3))) (mvT ok.2.1 (tb _ (List.mem_of_getElem? w4))) (mvT ok.2.1 (tb _ (List.mem_of_getElem? w5))) i1 i3 q (by rw [ek]; exact m3) (g := mkF K.m pc ls (.ref a :: st)) rfl (hsz.trans ok.2.2.2.1.symm) rfl (hb ok.2.2.1 hd) hf (by simp only [Nat.mul_zero, Nat.zero_add]; exact Nat.le_trans (Nat.add_le_add_right hW _) hlo)
  exact Ends.step stp (G _ _ X' N e)
theorem W.ldcM (ok : Ok Z K y code maxL ret) (tb : Tb Z a0 ts) {idx : Nat} {C : String} {mr : Addr} (i1 : Nat) (w1 : ts[i1]? = some (.classLink y.cls idx C)) (M : Mr Z C mr) (hd : decode code pc = .ok (.ldc idx, 2)) (pc' : Nat) (G : W l Z R K Q h cc ss pc' ls (.ref mr :: st)) (hp : pc + 2 = pc' := by rfl) :
    W l Z R K Q h cc ss pc ls st := by
  subst hp
  intro T L X N e
  obtain ⟨cc', kc, m1, m2, m3⟩ := M
  obtain ⟨k', q, ek⟩ := ok.2.1.alike.2.2 _ _ m2
  have f1 : K.s.vm.findClass C = some cc' := by rw [ok.2.1.alike.findClass]; exact m1
  have f2 : k'.mirror = some mr := by rw [ek]; exact m3
  have ev : (Term.mirror C).eval K.args K.s none [] K.s = some (.ref mr) := by simp [Term.eval, f1, q, f2]
  obtain ⟨vm', X', stp⟩ := X.ldcMirror ok.1 ok.2.2.2.2.1 (mvT ok.2.1 (tb _ (List.mem_of_getElem? w1))) ev (g := mkF K.m pc ls st) rfl (hb ok.2.2.1 hd)
  exact Ends.step stp (G _ _ X' N e)
theorem W.alenA (ok : Ok Z K y code maxL ret) {c : Cell} {ty : FieldType} (A : RoadKit.Arr Z h a c ty) (hd : decode code pc = .ok (.arraylength, 1)) (pc' : Nat) (n : Int32) (hn : c.slots.size.toInt32 = n) (G : W l Z R K Q h cc ss pc' ls (.int n :: st)) (hp : pc + 1 = pc' := by rfl) :
    W l Z R K Q h cc ss pc ls (.ref a :: st) := by
  subst hp hn
  intro T L X N e
  exact Ends.step (fun t kt => X.arraylength ok.1 (by rw [e]; exact A.1) (State.isArrayOf_alike ok.2.1.alike A.2.1) (g := mkF K.m pc ls (.ref a :: st)) rfl rfl (hb ok.2.2.1 hd) _ kt) (G T _ X N e)
theorem W.aaldA (ok : Ok Z K y code maxL ret) {c : Cell} {ty : FieldType} {j : Int32} (A : RoadKit.Arr Z h a c ty) (hj : ¬ (j < 0 ∨ c.slots.size ≤ j.toNatClampNeg)) (hv : c.slots[j.toNatClampNeg]? = some v) (hd : decode code pc = .ok (.aaload, 1)) (pc' : Nat) (G : W l Z R K Q h cc ss pc' ls (v :: st)) (hty : ty.isReference = true := by rfl) (hp : pc + 1 = pc' := by rfl) :
    W l Z R K Q h cc ss pc ls (.int j :: .ref a :: st) := by
  subst hp
  intro T L X N e
  exact Ends.step (fun t kt => X.aaload ok.1 (j := j) (v := v) (by rw [e]; exact A.1) (State.isArrayOf_alike ok.2.1.alike A.2.1) hty A.2.2 hj hv (g := mkF K.m pc ls (.int j :: .ref a :: st)) rfl rfl (hb ok.2.2.1 hd) _ kt) (G T _ X N e)
end More
end Jvm.Own
namespace Jvm.Own
open Sem ClassFile Op Lib Jvm.Stand Jvm.Free Jvm.LawKit Jvm.RoadKit
theorem len_of_eq {Z : State} {args : Array Value} {t : Term} {a : Addr} {c : Cell} {ty : FieldType} {n : Int32} (e : t.eval args Z none [] Z = some (.ref a)) (A : RoadKit.Arr Z Z.heap a c ty) (w : (Jvm.Cond.eq (.length t) (.int n)).value args Z none Z [] = some true) : c.slots.size.toInt32 = n := by
  have ha := A.fin (Vm.Alike.refl _)
  by_cases hl : c.slots.size < 2 ^ 31
  · have e2 := len_f e ha hl
    simp [Cond.value, e2, Term.int_eval] at w
    exact w
  · have e2 : (Term.length t).eval args Z none [] Z = none := by simp [Term.eval, e, ha, hl]
    simp [Cond.value, e2] at w
end Jvm.Own
namespace Jvm.Pilot.@@N@@
open Jvm Jvm.ClassFile Sem Op Lib Jvm.Free Jvm.Stand Jvm.LawKit Jvm.RoadKit Bundle Jvm.Pilot.@@N@@.Jvm.D
theorem d_jdk_40_method_36_0 : decode jdk_40_method_36_code 0 = .ok (.getstatic 90, 3) := by decide +kernel
theorem d_jdk_40_method_36_3 : decode jdk_40_method_36_code 3 = .ok (.areturn, 1) := by decide +kernel
theorem d_prog_38_method_1_0 : decode prog_38_method_1_code 0 = .ok (.aload_n 0, 1) := by decide +kernel
theorem d_prog_38_method_1_1 : decode prog_38_method_1_code 1 = .ok (.invokespecial 1, 3) := by decide +kernel
theorem d_prog_38_method_1_4 : decode prog_38_method_1_code 4 = .ok (.aload_n 0, 1) := by decide +kernel
theorem d_prog_38_method_1_5 : decode prog_38_method_1_code 5 = .ok (.getstatic 7, 3) := by decide +kernel
theorem d_prog_38_method_1_8 : decode prog_38_method_1_code 8 = .ok (.putfield 13, 3) := by decide +kernel
theorem d_prog_38_method_1_11 : decode prog_38_method_1_code 11 = .ok (.aload_n 0, 1) := by decide +kernel
theorem d_prog_38_method_1_12 : decode prog_38_method_1_code 12 = .ok (.getstatic 16, 3) := by decide +kernel
theorem d_prog_38_method_1_15 : decode prog_38_method_1_code 15 = .ok (.putfield 22, 3) := by decide +kernel
theorem d_prog_38_method_1_18 : decode prog_38_method_1_code 18 = .ok (.aload_n 0, 1) := by decide +kernel
theorem d_prog_38_method_1_19 : decode prog_38_method_1_code 19 = .ok (.invokestatic 25, 3) := by decide +kernel
theorem pd_0 : parseMethodDescriptor "()Ljava/util/List;" = some ⟨[], some (.object "java/util/List")⟩ := by decide +kernel
theorem d_prog_38_method_1_22 : decode prog_38_method_1_code 22 = .ok (.putfield 31, 3) := by decide +kernel
theorem d_prog_38_method_1_25 : decode prog_38_method_1_code 25 = .ok (.aload_n 0, 1) := by decide +kernel
theorem d_prog_38_method_1_26 : decode prog_38_method_1_code 26 = .ok (.iload_n 1, 1) := by decide +kernel
theorem d_prog_38_method_1_27 : decode prog_38_method_1_code 27 = .ok (.putfield 35, 3) := by decide +kernel
theorem d_prog_38_method_1_30 : decode prog_38_method_1_code 30 = .ok (.aload_n 0, 1) := by decide +kernel
theorem d_prog_38_method_1_31 : decode prog_38_method_1_code 31 = .ok (.iload_n 2, 1) := by decide +kernel
theorem d_prog_38_method_1_32 : decode prog_38_method_1_code 32 = .ok (.putfield 39, 3) := by decide +kernel
theorem d_prog_38_method_1_35 : decode prog_38_method_1_code 35 = .ok (.return_, 1) := by decide +kernel
theorem d_prog_38_method_9_0 : decode prog_38_method_9_code 0 = .ok (.aload_n 0, 1) := by decide +kernel
theorem d_prog_38_method_9_1 : decode prog_38_method_9_code 1 = .ok (.getfield 56, 3) := by decide +kernel
theorem d_prog_38_method_9_4 : decode prog_38_method_9_code 4 = .ok (.ireturn, 1) := by decide +kernel
theorem d_prog_38_method_4_0 : decode prog_38_method_4_code 0 = .ok (.aload_n 0, 1) := by decide +kernel
theorem d_prog_38_method_4_1 : decode prog_38_method_4_code 1 = .ok (.getfield 43, 3) := by decide +kernel
theorem d_prog_38_method_4_4 : decode prog_38_method_4_code 4 = .ok (.ireturn, 1) := by decide +kernel
theorem d_prog_38_method_5_0 : decode prog_38_method_5_code 0 = .ok (.aload_n 0, 1) := by decide +kernel
theorem d_prog_38_method_5_1 : decode prog_38_method_5_code 1 = .ok (.getfield 46, 3) := by decide +kernel
theorem d_prog_38_method_5_4 : decode prog_38_method_5_code 4 = .ok (.ireturn, 1) := by decide +kernel
theorem d_jdk_38_method_8_0 : decode jdk_38_method_8_code 0 = .ok (.aload_n 0, 1) := by decide +kernel
theorem d_jdk_38_method_8_1 : decode jdk_38_method_8_code 1 = .ok (.getfield 48, 3) := by decide +kernel
theorem d_jdk_38_method_8_4 : decode jdk_38_method_8_code 4 = .ok (.ireturn, 1) := by decide +kernel
theorem d_prog_38_method_13_0 : decode prog_38_method_13_code 0 = .ok (.aload_n 0, 1) := by decide +kernel
theorem d_prog_38_method_13_1 : decode prog_38_method_13_code 1 = .ok (.getfield 63, 3) := by decide +kernel
theorem d_prog_38_method_13_4 : decode prog_38_method_13_code 4 = .ok (.areturn, 1) := by decide +kernel
theorem d_jdk_45_method_2_0 : decode jdk_45_method_2_code 0 = .ok (.aload_n 0, 1) := by decide +kernel
theorem d_jdk_45_method_2_1 : decode jdk_45_method_2_code 1 = .ok (.getfield 7, 3) := by decide +kernel
theorem d_jdk_45_method_2_4 : decode jdk_45_method_2_code 4 = .ok (.arraylength, 1) := by decide +kernel
theorem d_jdk_45_method_2_5 : decode jdk_45_method_2_code 5 = .ok (.ifCond .ne 7, 3) := by decide +kernel
theorem d_jdk_45_method_2_8 : decode jdk_45_method_2_code 8 = .ok (.iconst 1, 1) := by decide +kernel
theorem d_jdk_45_method_2_9 : decode jdk_45_method_2_code 9 = .ok (.goto 4, 3) := by decide +kernel
theorem d_jdk_45_method_2_13 : decode jdk_45_method_2_code 13 = .ok (.ireturn, 1) := by decide +kernel
theorem d_jdk_38_method_9_0 : decode jdk_38_method_9_code 0 = .ok (.aload_n 0, 1) := by decide +kernel
theorem d_jdk_38_method_9_1 : decode jdk_38_method_9_code 1 = .ok (.getfield 48, 3) := by decide +kernel
theorem d_jdk_38_method_9_4 : decode jdk_38_method_9_code 4 = .ok (.ifCond .ne 7, 3) := by decide +kernel
theorem d_jdk_38_method_9_11 : decode jdk_38_method_9_code 11 = .ok (.iconst 0, 1) := by decide +kernel
theorem d_jdk_38_method_9_12 : decode jdk_38_method_9_code 12 = .ok (.ireturn, 1) := by decide +kernel
theorem d_jdk_22_method_1_0 : decode jdk_22_method_1_code 0 = .ok (.aload_n 0, 1) := by decide +kernel
theorem d_jdk_22_method_1_1 : decode jdk_22_method_1_code 1 = .ok (.invokespecial 1, 3) := by decide +kernel
theorem d_jdk_22_method_1_4 : decode jdk_22_method_1_code 4 = .ok (.return_, 1) := by decide +kernel
theorem d_jdk_39_method_1_0 : decode jdk_39_method_1_code 0 = .ok (.aload_n 0, 1) := by decide +kernel
theorem d_jdk_39_method_1_1 : decode jdk_39_method_1_code 1 = .ok (.invokespecial 1, 3) := by decide +kernel
theorem pd_1 : parseMethodDescriptor "()V" = some ⟨[], none⟩ := by decide +kernel
theorem d_jdk_39_method_1_4 : decode jdk_39_method_1_code 4 = .ok (.aload_n 0, 1) := by decide +kernel
theorem d_jdk_39_method_1_5 : decode jdk_39_method_1_code 5 = .ok (.iconst 0, 1) := by decide +kernel
theorem d_jdk_39_method_1_6 : decode jdk_39_method_1_code 6 = .ok (.putfield 7, 3) := by decide +kernel
theorem d_jdk_39_method_1_9 : decode jdk_39_method_1_code 9 = .ok (.return_, 1) := by decide +kernel
theorem d_jdk_38_method_1_0 : decode jdk_38_method_1_code 0 = .ok (.aload_n 0, 1) := by decide +kernel
theorem d_jdk_38_method_1_1 : decode jdk_38_method_1_code 1 = .ok (.invokespecial 1, 3) := by decide +kernel
theorem d_jdk_38_method_1_4 : decode jdk_38_method_1_code 4 = .ok (.iload_n 1, 1) := by decide +kernel
theorem d_jdk_38_method_1_5 : decode jdk_38_method_1_code 5 = .ok (.ifCond .le 14, 3) := by decide +kernel
theorem d_jdk_38_method_1_8 : decode jdk_38_method_1_code 8 = .ok (.aload_n 0, 1) := by decide +kernel
theorem d_jdk_38_method_1_9 : decode jdk_38_method_1_code 9 = .ok (.iload_n 1, 1) := by decide +kernel
theorem d_jdk_38_method_1_10 : decode jdk_38_method_1_code 10 = .ok (.anewarray 7, 3) := by decide +kernel
theorem d_jdk_38_method_1_13 : decode jdk_38_method_1_code 13 = .ok (.putfield 9, 3) := by decide +kernel
theorem d_jdk_38_method_1_16 : decode jdk_38_method_1_code 16 = .ok (.goto 44, 3) := by decide +kernel
theorem d_jdk_38_method_1_60 : decode jdk_38_method_1_code 60 = .ok (.return_, 1) := by decide +kernel
theorem d_jdk_29_method_65_0 : decode jdk_29_method_65_code 0 = .ok (.iload_n 0, 1) := by decide +kernel
theorem d_jdk_29_method_65_1 : decode jdk_29_method_65_code 1 = .ok (.iload_n 1, 1) := by decide +kernel
theorem d_jdk_29_method_65_2 : decode jdk_29_method_65_code 2 = .ok (.if_icmp .lt 7, 3) := by decide +kernel
theorem d_jdk_29_method_65_9 : decode jdk_29_method_65_code 9 = .ok (.iload_n 1, 1) := by decide +kernel
theorem d_jdk_29_method_65_10 : decode jdk_29_method_65_code 10 = .ok (.ireturn, 1) := by decide +kernel
theorem d_jdk_29_method_65_5 : decode jdk_29_method_65_code 5 = .ok (.iload_n 0, 1) := by decide +kernel
theorem d_jdk_29_method_65_6 : decode jdk_29_method_65_code 6 = .ok (.goto 4, 3) := by decide +kernel
theorem d_jdk_29_method_69_0 : decode jdk_29_method_69_code 0 = .ok (.iload_n 0, 1) := by decide +kernel
theorem d_jdk_29_method_69_1 : decode jdk_29_method_69_code 1 = .ok (.iload_n 1, 1) := by decide +kernel
theorem d_jdk_29_method_69_2 : decode jdk_29_method_69_code 2 = .ok (.if_icmp .gt 7, 3) := by decide +kernel
theorem d_jdk_29_method_69_9 : decode jdk_29_method_69_code 9 = .ok (.iload_n 1, 1) := by decide +kernel
theorem d_jdk_29_method_69_10 : decode jdk_29_method_69_code 10 = .ok (.ireturn, 1) := by decide +kernel
theorem d_jdk_29_method_69_5 : decode jdk_29_method_69_code 5 = .ok (.iload_n 0, 1) := by decide +kernel
theorem d_jdk_29_method_69_6 : decode jdk_29_method_69_code 6 = .ok (.goto 4, 3) := by decide +kernel
theorem d_jdk_48_method_27_0 : decode jdk_48_method_27_code 0 = .ok (.iload_n 0, 1) := by decide +kernel
theorem d_jdk_48_method_27_1 : decode jdk_48_method_27_code 1 = .ok (.iload_n 1, 1) := by decide +kernel
theorem d_jdk_48_method_27_2 : decode jdk_48_method_27_code 2 = .ok (.iload_n 2, 1) := by decide +kernel
theorem d_jdk_48_method_27_3 : decode jdk_48_method_27_code 3 = .ok (.invokestatic 194, 3) := by decide +kernel
theorem pd_2 : parseMethodDescriptor "(II)I" = some ⟨[.int, .int], some .int⟩ := by decide +kernel
theorem d_jdk_48_method_27_6 : decode jdk_48_method_27_code 6 = .ok (.iadd, 1) := by decide +kernel
theorem d_jdk_48_method_27_7 : decode jdk_48_method_27_code 7 = .ok (.istore_n 3, 1) := by decide +kernel
theorem d_jdk_48_method_27_8 : decode jdk_48_method_27_code 8 = .ok (.iconst 0, 1) := by decide +kernel
theorem d_jdk_48_method_27_9 : decode jdk_48_method_27_code 9 = .ok (.iload_n 3, 1) := by decide +kernel
theorem d_jdk_48_method_27_10 : decode jdk_48_method_27_code 10 = .ok (.if_icmp .ge 11, 3) := by decide +kernel
theorem d_jdk_48_method_27_13 : decode jdk_48_method_27_code 13 = .ok (.iload_n 3, 1) := by decide +kernel
theorem d_jdk_48_method_27_14 : decode jdk_48_method_27_code 14 = .ok (.ldc 200, 2) := by decide +kernel
theorem d_jdk_48_method_27_16 : decode jdk_48_method_27_code 16 = .ok (.if_icmp .gt 5, 3) := by decide +kernel
theorem d_jdk_48_method_27_19 : decode jdk_48_method_27_code 19 = .ok (.iload_n 3, 1) := by decide +kernel
theorem d_jdk_48_method_27_20 : decode jdk_48_method_27_code 20 = .ok (.ireturn, 1) := by decide +kernel
theorem d_jdk_65_method_120_0 : decode jdk_65_method_120_code 0 = .ok (.aload_n 2, 1) := by decide +kernel
theorem d_jdk_65_method_120_1 : decode jdk_65_method_120_code 1 = .ok (.ldc 110, 2) := by decide +kernel
theorem d_jdk_65_method_120_3 : decode jdk_65_method_120_code 3 = .ok (.if_acmp .ne 10, 3) := by decide +kernel
theorem d_jdk_65_method_120_6 : decode jdk_65_method_120_code 6 = .ok (.iload_n 1, 1) := by decide +kernel
theorem d_jdk_65_method_120_7 : decode jdk_65_method_120_code 7 = .ok (.anewarray 2, 3) := by decide +kernel
theorem d_jdk_65_method_120_10 : decode jdk_65_method_120_code 10 = .ok (.goto 14, 3) := by decide +kernel
theorem d_jdk_65_method_120_24 : decode jdk_65_method_120_code 24 = .ok (.astore_n 3, 1) := by decide +kernel
theorem d_jdk_65_method_120_25 : decode jdk_65_method_120_code 25 = .ok (.aload_n 0, 1) := by decide +kernel
theorem d_jdk_65_method_120_26 : decode jdk_65_method_120_code 26 = .ok (.iconst 0, 1) := by decide +kernel
theorem d_jdk_65_method_120_27 : decode jdk_65_method_120_code 27 = .ok (.aload_n 3, 1) := by decide +kernel
theorem d_jdk_65_method_120_28 : decode jdk_65_method_120_code 28 = .ok (.iconst 0, 1) := by decide +kernel
theorem d_jdk_65_method_120_29 : decode jdk_65_method_120_code 29 = .ok (.aload_n 0, 1) := by decide +kernel
theorem d_jdk_65_method_120_30 : decode jdk_65_method_120_code 30 = .ok (.arraylength, 1) := by decide +kernel
theorem d_jdk_65_method_120_31 : decode jdk_65_method_120_code 31 = .ok (.iload_n 1, 1) := by decide +kernel
theorem d_jdk_65_method_120_32 : decode jdk_65_method_120_code 32 = .ok (.invokestatic 304, 3) := by decide +kernel
theorem d_jdk_65_method_120_35 : decode jdk_65_method_120_code 35 = .ok (.invokestatic 150, 3) := by decide +kernel
theorem d_jdk_65_method_120_38 : decode jdk_65_method_120_code 38 = .ok (.aload_n 3, 1) := by decide +kernel
theorem d_jdk_65_method_120_39 : decode jdk_65_method_120_code 39 = .ok (.areturn, 1) := by decide +kernel
theorem d_jdk_65_method_119_0 : decode jdk_65_method_119_code 0 = .ok (.aload_n 0, 1) := by decide +kernel
theorem d_jdk_65_method_119_1 : decode jdk_65_method_119_code 1 = .ok (.iload_n 1, 1) := by decide +kernel
theorem d_jdk_65_method_119_2 : decode jdk_65_method_119_code 2 = .ok (.aload_n 0, 1) := by decide +kernel
theorem d_jdk_65_method_119_3 : decode jdk_65_method_119_code 3 = .ok (.invokevirtual 86, 3) := by decide +kernel
theorem d_jdk_65_method_119_6 : decode jdk_65_method_119_code 6 = .ok (.invokestatic 300, 3) := by decide +kernel
theorem pd_3 : parseMethodDescriptor "([Ljava/lang/Object;ILjava/lang/Class;)[Ljava/lang/Object;" = some ⟨[(.array (.object "java/lang/Object")), .int, (.object "java/lang/Class")], some (.array (.object "java/lang/Object"))⟩ := by decide +kernel
theorem d_jdk_65_method_119_9 : decode jdk_65_method_119_code 9 = .ok (.areturn, 1) := by decide +kernel
theorem d_jdk_38_method_6_0 : decode jdk_38_method_6_code 0 = .ok (.aload_n 0, 1) := by decide +kernel
theorem d_jdk_38_method_6_1 : decode jdk_38_method_6_code 1 = .ok (.getfield 9, 3) := by decide +kernel
theorem d_jdk_38_method_6_4 : decode jdk_38_method_6_code 4 = .ok (.arraylength, 1) := by decide +kernel
theorem d_jdk_38_method_6_5 : decode jdk_38_method_6_code 5 = .ok (.istore_n 2, 1) := by decide +kernel
theorem d_jdk_38_method_6_6 : decode jdk_38_method_6_code 6 = .ok (.iload_n 2, 1) := by decide +kernel
theorem d_jdk_38_method_6_7 : decode jdk_38_method_6_code 7 = .ok (.ifCond .gt 13, 3) := by decide +kernel
theorem d_jdk_38_method_6_20 : decode jdk_38_method_6_code 20 = .ok (.iload_n 2, 1) := by decide +kernel
theorem d_jdk_38_method_6_21 : decode jdk_38_method_6_code 21 = .ok (.iload_n 1, 1) := by decide +kernel
theorem d_jdk_38_method_6_22 : decode jdk_38_method_6_code 22 = .ok (.iload_n 2, 1) := by decide +kernel
theorem d_jdk_38_method_6_23 : decode jdk_38_method_6_code 23 = .ok (.isub, 1) := by decide +kernel
theorem d_jdk_38_method_6_24 : decode jdk_38_method_6_code 24 = .ok (.iload_n 2, 1) := by decide +kernel
theorem d_jdk_38_method_6_25 : decode jdk_38_method_6_code 25 = .ok (.iconst 1, 1) := by decide +kernel
theorem d_jdk_38_method_6_26 : decode jdk_38_method_6_code 26 = .ok (.ishr, 1) := by decide +kernel
theorem d_jdk_38_method_6_27 : decode jdk_38_method_6_code 27 = .ok (.invokestatic 73, 3) := by decide +kernel
theorem pd_4 : parseMethodDescriptor "(III)I" = some ⟨[.int, .int, .int], some .int⟩ := by decide +kernel
theorem d_jdk_38_method_6_30 : decode jdk_38_method_6_code 30 = .ok (.istore_n 3, 1) := by decide +kernel
theorem d_jdk_38_method_6_31 : decode jdk_38_method_6_code 31 = .ok (.aload_n 0, 1) := by decide +kernel
theorem d_jdk_38_method_6_32 : decode jdk_38_method_6_code 32 = .ok (.aload_n 0, 1) := by decide +kernel
theorem d_jdk_38_method_6_33 : decode jdk_38_method_6_code 33 = .ok (.getfield 9, 3) := by decide +kernel
theorem d_jdk_38_method_6_36 : decode jdk_38_method_6_code 36 = .ok (.iload_n 3, 1) := by decide +kernel
theorem d_jdk_38_method_6_37 : decode jdk_38_method_6_code 37 = .ok (.invokestatic 66, 3) := by decide +kernel
theorem pd_5 : parseMethodDescriptor "([Ljava/lang/Object;I)[Ljava/lang/Object;" = some ⟨[(.array (.object "java/lang/Object")), .int], some (.array (.object "java/lang/Object"))⟩ := by decide +kernel
theorem d_jdk_38_method_6_40 : decode jdk_38_method_6_code 40 = .ok (.dup_x1, 1) := by decide +kernel
theorem d_jdk_38_method_6_41 : decode jdk_38_method_6_code 41 = .ok (.putfield 9, 3) := by decide +kernel
theorem d_jdk_38_method_6_44 : decode jdk_38_method_6_code 44 = .ok (.areturn, 1) := by decide +kernel
theorem d_jdk_38_method_7_0 : decode jdk_38_method_7_code 0 = .ok (.aload_n 0, 1) := by decide +kernel
theorem d_jdk_38_method_7_1 : decode jdk_38_method_7_code 1 = .ok (.aload_n 0, 1) := by decide +kernel
theorem d_jdk_38_method_7_2 : decode jdk_38_method_7_code 2 = .ok (.getfield 48, 3) := by decide +kernel
theorem d_jdk_38_method_7_5 : decode jdk_38_method_7_code 5 = .ok (.iconst 1, 1) := by decide +kernel
theorem d_jdk_38_method_7_6 : decode jdk_38_method_7_code 6 = .ok (.iadd, 1) := by decide +kernel
theorem d_jdk_38_method_7_7 : decode jdk_38_method_7_code 7 = .ok (.invokevirtual 69, 3) := by decide +kernel
theorem pd_6 : parseMethodDescriptor "(I)[Ljava/lang/Object;" = some ⟨[.int], some (.array (.object "java/lang/Object"))⟩ := by decide +kernel
theorem d_jdk_38_method_7_10 : decode jdk_38_method_7_code 10 = .ok (.areturn, 1) := by decide +kernel
theorem d_jdk_38_method_24_0 : decode jdk_38_method_24_code 0 = .ok (.iload_n 3, 1) := by decide +kernel
theorem d_jdk_38_method_24_1 : decode jdk_38_method_24_code 1 = .ok (.aload_n 2, 1) := by decide +kernel
theorem d_jdk_38_method_24_2 : decode jdk_38_method_24_code 2 = .ok (.arraylength, 1) := by decide +kernel
theorem d_jdk_38_method_24_3 : decode jdk_38_method_24_code 3 = .ok (.if_icmp .ne 8, 3) := by decide +kernel
theorem d_jdk_38_method_24_11 : decode jdk_38_method_24_code 11 = .ok (.aload_n 2, 1) := by decide +kernel
theorem d_jdk_38_method_24_12 : decode jdk_38_method_24_code 12 = .ok (.iload_n 3, 1) := by decide +kernel
theorem d_jdk_38_method_24_13 : decode jdk_38_method_24_code 13 = .ok (.aload_n 1, 1) := by decide +kernel
theorem d_jdk_38_method_24_14 : decode jdk_38_method_24_code 14 = .ok (.aastore, 1) := by decide +kernel
theorem d_jdk_38_method_24_15 : decode jdk_38_method_24_code 15 = .ok (.aload_n 0, 1) := by decide +kernel
theorem d_jdk_38_method_24_16 : decode jdk_38_method_24_code 16 = .ok (.iload_n 3, 1) := by decide +kernel
theorem d_jdk_38_method_24_17 : decode jdk_38_method_24_code 17 = .ok (.iconst 1, 1) := by decide +kernel
theorem d_jdk_38_method_24_18 : decode jdk_38_method_24_code 18 = .ok (.iadd, 1) := by decide +kernel
theorem d_jdk_38_method_24_19 : decode jdk_38_method_24_code 19 = .ok (.putfield 48, 3) := by decide +kernel
theorem d_jdk_38_method_24_22 : decode jdk_38_method_24_code 22 = .ok (.return_, 1) := by decide +kernel
theorem d_jdk_38_method_25_0 : decode jdk_38_method_25_code 0 = .ok (.aload_n 0, 1) := by decide +kernel
theorem d_jdk_38_method_25_1 : decode jdk_38_method_25_code 1 = .ok (.dup, 1) := by decide +kernel
theorem d_jdk_38_method_25_2 : decode jdk_38_method_25_code 2 = .ok (.getfield 63, 3) := by decide +kernel
theorem d_jdk_38_method_25_5 : decode jdk_38_method_25_code 5 = .ok (.iconst 1, 1) := by decide +kernel
theorem d_jdk_38_method_25_6 : decode jdk_38_method_25_code 6 = .ok (.iadd, 1) := by decide +kernel
theorem d_jdk_38_method_25_7 : decode jdk_38_method_25_code 7 = .ok (.putfield 63, 3) := by decide +kernel
theorem d_jdk_38_method_25_10 : decode jdk_38_method_25_code 10 = .ok (.aload_n 0, 1) := by decide +kernel
theorem d_jdk_38_method_25_11 : decode jdk_38_method_25_code 11 = .ok (.aload_n 1, 1) := by decide +kernel
theorem d_jdk_38_method_25_12 : decode jdk_38_method_25_code 12 = .ok (.aload_n 0, 1) := by decide +kernel
theorem d_jdk_38_method_25_13 : decode jdk_38_method_25_code 13 = .ok (.getfield 9, 3) := by decide +kernel
theorem d_jdk_38_method_25_16 : decode jdk_38_method_25_code 16 = .ok (.aload_n 0, 1) := by decide +kernel
theorem d_jdk_38_method_25_17 : decode jdk_38_method_25_code 17 = .ok (.getfield 48, 3) := by decide +kernel
theorem d_jdk_38_method_25_20 : decode jdk_38_method_25_code 20 = .ok (.invokevirtual 131, 3) := by decide +kernel
theorem pd_7 : parseMethodDescriptor "(Ljava/lang/Object;[Ljava/lang/Object;I)V" = some ⟨[(.object "java/lang/Object"), (.array (.object "java/lang/Object")), .int], none⟩ := by decide +kernel
theorem d_jdk_38_method_25_23 : decode jdk_38_method_25_code 23 = .ok (.iconst 1, 1) := by decide +kernel
theorem d_jdk_38_method_25_24 : decode jdk_38_method_25_code 24 = .ok (.ireturn, 1) := by decide +kernel
theorem d_jdk_38_method_24_6 : decode jdk_38_method_24_code 6 = .ok (.aload_n 0, 1) := by decide +kernel
theorem d_jdk_38_method_24_7 : decode jdk_38_method_24_code 7 = .ok (.invokevirtual 129, 3) := by decide +kernel
theorem pd_8 : parseMethodDescriptor "()[Ljava/lang/Object;" = some ⟨[], some (.array (.object "java/lang/Object"))⟩ := by decide +kernel
theorem d_jdk_38_method_24_10 : decode jdk_38_method_24_code 10 = .ok (.astore_n 2, 1) := by decide +kernel
theorem d_prog_38_method_21_0 : decode prog_38_method_21_code 0 = .ok (.aload_n 1, 1) := by decide +kernel
theorem d_prog_38_method_21_1 : decode prog_38_method_21_code 1 = .ok (.aload_n 0, 1) := by decide +kernel
theorem d_prog_38_method_21_2 : decode prog_38_method_21_code 2 = .ok (.putfield 63, 3) := by decide +kernel
theorem d_prog_38_method_21_5 : decode prog_38_method_21_code 5 = .ok (.aload_n 0, 1) := by decide +kernel
theorem d_prog_38_method_21_6 : decode prog_38_method_21_code 6 = .ok (.getfield 31, 3) := by decide +kernel
theorem d_prog_38_method_21_9 : decode prog_38_method_21_code 9 = .ok (.invokeinterface 146 1, 5) := by decide +kernel
theorem pd_9 : parseMethodDescriptor "()Z" = some ⟨[], some .boolean⟩ := by decide +kernel
theorem d_prog_38_method_21_14 : decode prog_38_method_21_code 14 = .ok (.ifCond .eq 15, 3) := by decide +kernel
theorem d_prog_38_method_21_17 : decode prog_38_method_21_code 17 = .ok (.aload_n 0, 1) := by decide +kernel
theorem d_prog_38_method_21_18 : decode prog_38_method_21_code 18 = .ok (.new 150, 3) := by decide +kernel
theorem d_prog_38_method_21_21 : decode prog_38_method_21_code 21 = .ok (.dup, 1) := by decide +kernel
theorem d_prog_38_method_21_22 : decode prog_38_method_21_code 22 = .ok (.iconst 1, 1) := by decide +kernel
theorem d_prog_38_method_21_23 : decode prog_38_method_21_code 23 = .ok (.invokespecial 152, 3) := by decide +kernel
theorem pd_10 : parseMethodDescriptor "(I)V" = some ⟨[.int], none⟩ := by decide +kernel
theorem d_prog_38_method_21_26 : decode prog_38_method_21_code 26 = .ok (.putfield 31, 3) := by decide +kernel
theorem d_prog_38_method_21_29 : decode prog_38_method_21_code 29 = .ok (.aload_n 0, 1) := by decide +kernel
theorem d_prog_38_method_21_30 : decode prog_38_method_21_code 30 = .ok (.getfield 31, 3) := by decide +kernel
theorem d_prog_38_method_21_33 : decode prog_38_method_21_code 33 = .ok (.aload_n 1, 1) := by decide +kernel
theorem d_prog_38_method_21_34 : decode prog_38_method_21_code 34 = .ok (.invokeinterface 154 2, 5) := by decide +kernel
theorem pd_11 : parseMethodDescriptor "(Ljava/lang/Object;)Z" = some ⟨[(.object "java/lang/Object")], some .boolean⟩ := by decide +kernel
theorem d_prog_38_method_21_39 : decode prog_38_method_21_code 39 = .ok (.pop, 1) := by decide +kernel
theorem d_prog_38_method_21_40 : decode prog_38_method_21_code 40 = .ok (.return_, 1) := by decide +kernel
theorem d_prog_37_method_1_0 : decode prog_37_method_1_code 0 = .ok (.aload_n 0, 1) := by decide +kernel
theorem d_prog_37_method_1_1 : decode prog_37_method_1_code 1 = .ok (.invokespecial 1, 3) := by decide +kernel
theorem d_prog_37_method_1_4 : decode prog_37_method_1_code 4 = .ok (.aload_n 0, 1) := by decide +kernel
theorem d_prog_37_method_1_5 : decode prog_37_method_1_code 5 = .ok (.getstatic 7, 3) := by decide +kernel
theorem d_prog_37_method_1_8 : decode prog_37_method_1_code 8 = .ok (.putfield 13, 3) := by decide +kernel
theorem d_prog_37_method_1_11 : decode prog_37_method_1_code 11 = .ok (.return_, 1) := by decide +kernel
theorem d_prog_47_method_1_0 : decode prog_47_method_1_code 0 = .ok (.aload_n 0, 1) := by decide +kernel
theorem d_prog_47_method_1_1 : decode prog_47_method_1_code 1 = .ok (.invokespecial 1, 3) := by decide +kernel
theorem d_prog_47_method_1_4 : decode prog_47_method_1_code 4 = .ok (.aload_n 0, 1) := by decide +kernel
theorem d_prog_47_method_1_5 : decode prog_47_method_1_code 5 = .ok (.getstatic 7, 3) := by decide +kernel
theorem d_prog_47_method_1_8 : decode prog_47_method_1_code 8 = .ok (.putfield 13, 3) := by decide +kernel
theorem d_prog_47_method_1_11 : decode prog_47_method_1_code 11 = .ok (.return_, 1) := by decide +kernel
theorem d_prog_37_method_4_0 : decode prog_37_method_4_code 0 = .ok (.aload_n 0, 1) := by decide +kernel
theorem d_prog_37_method_4_1 : decode prog_37_method_4_code 1 = .ok (.getfield 16, 3) := by decide +kernel
theorem d_prog_37_method_4_4 : decode prog_37_method_4_code 4 = .ok (.ifCond .ne 11, 3) := by decide +kernel
theorem d_prog_37_method_4_7 : decode prog_37_method_4_code 7 = .ok (.aload_n 0, 1) := by decide +kernel
theorem d_prog_37_method_4_8 : decode prog_37_method_4_code 8 = .ok (.aload_n 1, 1) := by decide +kernel
theorem d_prog_37_method_4_9 : decode prog_37_method_4_code 9 = .ok (.putfield 20, 3) := by decide +kernel
theorem d_prog_37_method_4_12 : decode prog_37_method_4_code 12 = .ok (.goto 54, 3) := by decide +kernel
theorem d_prog_37_method_4_66 : decode prog_37_method_4_code 66 = .ok (.aload_n 0, 1) := by decide +kernel
theorem d_prog_37_method_4_67 : decode prog_37_method_4_code 67 = .ok (.dup, 1) := by decide +kernel
theorem d_prog_37_method_4_68 : decode prog_37_method_4_code 68 = .ok (.getfield 16, 3) := by decide +kernel
theorem d_prog_37_method_4_71 : decode prog_37_method_4_code 71 = .ok (.iconst 1, 1) := by decide +kernel
theorem d_prog_37_method_4_72 : decode prog_37_method_4_code 72 = .ok (.iadd, 1) := by decide +kernel
theorem d_prog_37_method_4_73 : decode prog_37_method_4_code 73 = .ok (.putfield 16, 3) := by decide +kernel
theorem d_prog_37_method_4_76 : decode prog_37_method_4_code 76 = .ok (.return_, 1) := by decide +kernel
theorem d_prog_38_method_11_0 : decode prog_38_method_11_code 0 = .ok (.aload_n 0, 1) := by decide +kernel
theorem d_prog_38_method_11_1 : decode prog_38_method_11_code 1 = .ok (.aload_n 1, 1) := by decide +kernel
theorem d_prog_38_method_11_2 : decode prog_38_method_11_code 2 = .ok (.putfield 59, 3) := by decide +kernel
theorem d_prog_38_method_11_5 : decode prog_38_method_11_code 5 = .ok (.return_, 1) := by decide +kernel
theorem d_prog_47_method_3_0 : decode prog_47_method_3_code 0 = .ok (.new 8, 3) := by decide +kernel
theorem d_prog_47_method_3_3 : decode prog_47_method_3_code 3 = .ok (.dup, 1) := by decide +kernel
theorem d_prog_47_method_3_4 : decode prog_47_method_3_code 4 = .ok (.invokespecial 18, 3) := by decide +kernel
theorem d_prog_47_method_3_7 : decode prog_47_method_3_code 7 = .ok (.astore_n 1, 1) := by decide +kernel
theorem d_prog_47_method_3_8 : decode prog_47_method_3_code 8 = .ok (.aload_n 1, 1) := by decide +kernel
theorem d_prog_47_method_3_9 : decode prog_47_method_3_code 9 = .ok (.aload_n 0, 1) := by decide +kernel
theorem d_prog_47_method_3_10 : decode prog_47_method_3_code 10 = .ok (.invokevirtual 19, 3) := by decide +kernel
theorem pd_12 : parseMethodDescriptor "(Lcom/example/latchwork/latchwork/engine/SyncState;)V" = some ⟨[(.object "com/example/latchwork/latchwork/engine/SyncState")], none⟩ := by decide +kernel
theorem d_prog_47_method_3_13 : decode prog_47_method_3_code 13 = .ok (.aload_n 1, 1) := by decide +kernel
theorem d_prog_47_method_3_14 : decode prog_47_method_3_code 14 = .ok (.aload_n 0, 1) := by decide +kernel
theorem d_prog_47_method_3_15 : decode prog_47_method_3_code 15 = .ok (.invokevirtual 23, 3) := by decide +kernel
theorem pd_13 : parseMethodDescriptor "()I" = some ⟨[], some .int⟩ := by decide +kernel
theorem d_prog_47_method_3_18 : decode prog_47_method_3_code 18 = .ok (.putfield 29, 3) := by decide +kernel
theorem d_prog_47_method_3_21 : decode prog_47_method_3_code 21 = .ok (.aload_n 1, 1) := by decide +kernel
theorem d_prog_47_method_3_22 : decode prog_47_method_3_code 22 = .ok (.aload_n 0, 1) := by decide +kernel
theorem d_prog_47_method_3_23 : decode prog_47_method_3_code 23 = .ok (.invokevirtual 32, 3) := by decide +kernel
theorem d_prog_47_method_3_26 : decode prog_47_method_3_code 26 = .ok (.ifCond .eq 7, 3) := by decide +kernel
theorem d_prog_47_method_3_33 : decode prog_47_method_3_code 33 = .ok (.iconst 1, 1) := by decide +kernel
theorem d_prog_47_method_3_34 : decode prog_47_method_3_code 34 = .ok (.putfield 36, 3) := by decide +kernel
theorem d_prog_47_method_3_37 : decode prog_47_method_3_code 37 = .ok (.aload_n 0, 1) := by decide +kernel
theorem d_prog_47_method_3_38 : decode prog_47_method_3_code 38 = .ok (.aload_n 1, 1) := by decide +kernel
theorem d_prog_47_method_3_39 : decode prog_47_method_3_code 39 = .ok (.invokevirtual 39, 3) := by decide +kernel
theorem pd_14 : parseMethodDescriptor "(Lcom/example/latchwork/latchwork/engine/Unit;)V" = some ⟨[(.object "com/example/latchwork/latchwork/engine/Unit")], none⟩ := by decide +kernel
theorem d_prog_47_method_3_42 : decode prog_47_method_3_code 42 = .ok (.aload_n 1, 1) := by decide +kernel
theorem d_prog_47_method_3_43 : decode prog_47_method_3_code 43 = .ok (.areturn, 1) := by decide +kernel
theorem d_prog_47_method_21_0 : decode prog_47_method_21_code 0 = .ok (.aload_n 0, 1) := by decide +kernel
theorem d_prog_47_method_21_1 : decode prog_47_method_21_code 1 = .ok (.dup, 1) := by decide +kernel
theorem d_prog_47_method_21_2 : decode prog_47_method_21_code 2 = .ok (.getfield 36, 3) := by decide +kernel
theorem d_prog_47_method_21_5 : decode prog_47_method_21_code 5 = .ok (.iconst 1, 1) := by decide +kernel
theorem d_prog_47_method_21_6 : decode prog_47_method_21_code 6 = .ok (.isub, 1) := by decide +kernel
theorem d_prog_47_method_21_7 : decode prog_47_method_21_code 7 = .ok (.putfield 36, 3) := by decide +kernel
theorem d_prog_47_method_21_10 : decode prog_47_method_21_code 10 = .ok (.return_, 1) := by decide +kernel
theorem d_prog_38_method_22_0 : decode prog_38_method_22_code 0 = .ok (.aload_n 0, 1) := by decide +kernel
theorem d_prog_38_method_22_1 : decode prog_38_method_22_code 1 = .ok (.iconst 1, 1) := by decide +kernel
theorem d_prog_38_method_22_2 : decode prog_38_method_22_code 2 = .ok (.putfield 43, 3) := by decide +kernel
theorem d_prog_38_method_22_5 : decode prog_38_method_22_code 5 = .ok (.aload_n 0, 1) := by decide +kernel
theorem d_prog_38_method_22_6 : decode prog_38_method_22_code 6 = .ok (.getfield 59, 3) := by decide +kernel
theorem d_prog_38_method_22_9 : decode prog_38_method_22_code 9 = .ok (.invokevirtual 158, 3) := by decide +kernel
theorem d_prog_38_method_22_12 : decode prog_38_method_22_code 12 = .ok (.return_, 1) := by decide +kernel
theorem d_prog_38_method_25_0 : decode prog_38_method_25_code 0 = .ok (.aload_n 0, 1) := by decide +kernel
theorem d_prog_38_method_25_1 : decode prog_38_method_25_code 1 = .ok (.getfield 43, 3) := by decide +kernel
theorem d_prog_38_method_25_4 : decode prog_38_method_25_code 4 = .ok (.ifCond .eq 41, 3) := by decide +kernel
theorem d_prog_38_method_25_7 : decode prog_38_method_25_code 7 = .ok (.aload_n 0, 1) := by decide +kernel
theorem d_prog_38_method_25_8 : decode prog_38_method_25_code 8 = .ok (.getfield 56, 3) := by decide +kernel
theorem d_prog_38_method_25_11 : decode prog_38_method_25_code 11 = .ok (.ifCond .ne 34, 3) := by decide +kernel
theorem d_prog_38_method_25_14 : decode prog_38_method_25_code 14 = .ok (.aload_n 0, 1) := by decide +kernel
theorem d_prog_38_method_25_15 : decode prog_38_method_25_code 15 = .ok (.getfield 163, 3) := by decide +kernel
theorem d_prog_38_method_25_18 : decode prog_38_method_25_code 18 = .ok (.aload_n 0, 1) := by decide +kernel
theorem d_prog_38_method_25_19 : decode prog_38_method_25_code 19 = .ok (.getfield 166, 3) := by decide +kernel
theorem d_prog_38_method_25_22 : decode prog_38_method_25_code 22 = .ok (.if_icmp .ne 23, 3) := by decide +kernel
theorem d_prog_38_method_25_25 : decode prog_38_method_25_code 25 = .ok (.aload_n 0, 1) := by decide +kernel
theorem d_prog_38_method_25_26 : decode prog_38_method_25_code 26 = .ok (.getfield 169, 3) := by decide +kernel
theorem d_prog_38_method_25_29 : decode prog_38_method_25_code 29 = .ok (.aload_n 0, 1) := by decide +kernel
theorem d_prog_38_method_25_30 : decode prog_38_method_25_code 30 = .ok (.getfield 31, 3) := by decide +kernel
theorem d_prog_38_method_25_33 : decode prog_38_method_25_code 33 = .ok (.invokeinterface 172 1, 5) := by decide +kernel
theorem d_prog_38_method_25_38 : decode prog_38_method_25_code 38 = .ok (.if_icmp .ne 7, 3) := by decide +kernel
theorem d_prog_38_method_25_41 : decode prog_38_method_25_code 41 = .ok (.iconst 1, 1) := by decide +kernel
theorem d_prog_38_method_25_42 : decode prog_38_method_25_code 42 = .ok (.goto 4, 3) := by decide +kernel
theorem d_prog_38_method_25_46 : decode prog_38_method_25_code 46 = .ok (.ireturn, 1) := by decide +kernel
theorem d_prog_38_method_25_45 : decode prog_38_method_25_code 45 = .ok (.iconst 0, 1) := by decide +kernel
theorem d_prog_38_method_26_0 : decode prog_38_method_26_code 0 = .ok (.aload_n 0, 1) := by decide +kernel
theorem d_prog_38_method_26_1 : decode prog_38_method_26_code 1 = .ok (.iconst 1, 1) := by decide +kernel
theorem d_prog_38_method_26_2 : decode prog_38_method_26_code 2 = .ok (.putfield 46, 3) := by decide +kernel
theorem d_prog_38_method_26_5 : decode prog_38_method_26_code 5 = .ok (.aload_n 0, 1) := by decide +kernel
theorem d_prog_38_method_26_6 : decode prog_38_method_26_code 6 = .ok (.getfield 63, 3) := by decide +kernel
theorem d_prog_38_method_26_9 : decode prog_38_method_26_code 9 = .ok (.dup, 1) := by decide +kernel
theorem d_prog_38_method_26_10 : decode prog_38_method_26_code 10 = .ok (.getfield 169, 3) := by decide +kernel
theorem d_prog_38_method_26_13 : decode prog_38_method_26_code 13 = .ok (.iconst 1, 1) := by decide +kernel
theorem d_prog_38_method_26_14 : decode prog_38_method_26_code 14 = .ok (.iadd, 1) := by decide +kernel
theorem d_prog_38_method_26_15 : decode prog_38_method_26_code 15 = .ok (.putfield 169, 3) := by decide +kernel
theorem d_prog_38_method_26_18 : decode prog_38_method_26_code 18 = .ok (.return_, 1) := by decide +kernel
theorem pd_15 : parseMethodDescriptor "(IZ)V" = some ⟨[.int, .boolean], none⟩ := by decide +kernel
theorem pd_16 : parseMethodDescriptor "(Lcom/example/latchwork/latchwork/engine/SyncState;)Lcom/example/latchwork/latchwork/engine/Unit;" = some ⟨[(.object "com/example/latchwork/latchwork/engine/SyncState")], some (.object "com/example/latchwork/latchwork/engine/Unit")⟩ := by decide +kernel
theorem pd_17 : parseMethodDescriptor "()Lcom/example/latchwork/latchwork/engine/SyncState;" = some ⟨[], some (.object "com/example/latchwork/latchwork/engine/SyncState")⟩ := by decide +kernel
abbrev o_Sync (f0 f1 f2 f3 f4 f5 f6 f7 f8 f9 f10 f11 f12 : Value) : Own.Pc := .inl ("com/example/latchwork/latchwork/engine/SyncState", [("com/example/latchwork/latchwork/engine/SyncState", "parts", "[Lcom/example/latchwork/latchwork/engine/SyncState$Part;", f0), ("com/example/latchwork/latchwork/engine/SyncState", "changes", "Lcom/example/latchwork/latchwork/model/Changes;", f1), ("com/example/latchwork/latchwork/engine/SyncState", "children", "Ljava/util/List;", f2), ("com/example/latchwork/latchwork/engine/SyncState", "number", "I", f3), ("com/example/latchwork/latchwork/engine/SyncState", "handsOver", "Z", f4), ("com/example/latchwork/latchwork/engine/SyncState", "parent", "Lcom/example/latchwork/latchwork/engine/SyncState;", f5), ("com/example/latchwork/latchwork/engine/SyncState", "pending", "I", f6), ("com/example/latchwork/latchwork/engine/SyncState", "ready", "Z", f7), ("com/example/latchwork/latchwork/engine/SyncState", "unit", "Lcom/example/latchwork/latchwork/engine/Unit;", f8), ("com/example/latchwork/latchwork/engine/SyncState", "arrivedFrames", "I", f9), ("com/example/latchwork/latchwork/engine/SyncState", "begunFrames", "I", f10), ("com/example/latchwork/latchwork/engine/SyncState", "endedChildren", "I", f11), ("com/example/latchwork/latchwork/engine/SyncState", "ended", "Z", f12)])
theorem nw_Sync {Z : State} {a0 : Array Value} (tb : Own.Tb Z a0 tables_1) : Own.Nw Z a0 "com/example/latchwork/latchwork/engine/SyncState" [("com/example/latchwork/latchwork/engine/SyncState", "parts", "[Lcom/example/latchwork/latchwork/engine/SyncState$Part;", .null), ("com/example/latchwork/latchwork/engine/SyncState", "changes", "Lcom/example/latchwork/latchwork/model/Changes;", .null), ("com/example/latchwork/latchwork/engine/SyncState", "children", "Ljava/util/List;", .null), ("com/example/latchwork/latchwork/engine/SyncState", "number", "I", (.int (0 : Int32))), ("com/example/latchwork/latchwork/engine/SyncState", "handsOver", "Z", (.int (0 : Int32))), ("com/example/latchwork/latchwork/engine/SyncState", "parent", "Lcom/example/latchwork/latchwork/engine/SyncState;", .null), ("com/example/latchwork/latchwork/engine/SyncState", "pending", "I", (.int (0 : Int32))), ("com/example/latchwork/latchwork/engine/SyncState", "ready", "Z", (.int (0 : Int32))), ("com/example/latchwork/latchwork/engine/SyncState", "unit", "Lcom/example/latchwork/latchwork/engine/Unit;", .null), ("com/example/latchwork/latchwork/engine/SyncState", "arrivedFrames", "I", (.int (0 : Int32))), ("com/example/latchwork/latchwork/engine/SyncState", "begunFrames", "I", (.int (0 : Int32))), ("com/example/latchwork/latchwork/engine/SyncState", "endedChildren", "I", (.int (0 : Int32))), ("com/example/latchwork/latchwork/engine/SyncState", "ended", "Z", (.int (0 : Int32)))] := (Own.Nw.cons (Or.inl (tb _ (List.mem_of_getElem? (i := 12) rfl))) (ty := (.array (.object "com/example/latchwork/latchwork/engine/SyncState$Part"))) (by decide) rfl (Own.Nw.cons (Or.inl (tb _ (List.mem_of_getElem? (i := 17) rfl))) (ty := (.object "com/example/latchwork/latchwork/model/Changes")) (by decide) rfl (Own.Nw.cons (Or.inl (tb _ (List.mem_of_getElem? (i := 25) rfl))) (ty := (.object "java/util/List")) (by decide) rfl (Own.Nw.cons (Or.inr (tb _ (List.mem_of_getElem? (i := 27) rfl))) (ty := .int) (by decide) rfl (Own.Nw.cons (Or.inr (tb _ (List.mem_of_getElem? (i := 29) rfl))) (ty := .boolean) (by decide) rfl (Own.Nw.cons (Or.inl (tb _ (List.mem_of_getElem? (i := 36) rfl))) (ty := (.object "com/example/latchwork/latchwork/engine/SyncState")) (by decide) rfl (Own.Nw.cons (Or.inl (tb _ (List.mem_of_getElem? (i := 178) rfl))) (ty := .int) (by decide) rfl (Own.Nw.cons (Or.inl (tb _ (List.mem_of_getElem? (i := 187) rfl))) (ty := .boolean) (by decide) rfl (Own.Nw.cons (Or.inl (tb _ (List.mem_of_getElem? (i := 196) rfl))) (ty := (.object "com/example/latchwork/latchwork/engine/Unit")) (by decide) rfl (Own.Nw.cons (Or.inl (tb _ (List.mem_of_getElem? (i := 213) rfl))) (ty := .int) (by decide) rfl (Own.Nw.cons (Or.inl (tb _ (List.mem_of_getElem? (i := 215) rfl))) (ty := .int) (by decide) rfl (Own.Nw.cons (Or.inl (tb _ (List.mem_of_getElem? (i := 217) rfl))) (ty := .int) (by decide) rfl (Own.Nw.cons (Or.inl (tb _ (List.mem_of_getElem? (i := 232) rfl))) (ty := .boolean) (by decide) rfl Own.Nw.nil)))))))))))))
abbrev o_AL (f0 f1 f2 : Value) : Own.Pc := .inl ("java/util/ArrayList", [("java/util/AbstractList", "modCount", "I", f0), ("java/util/ArrayList", "elementData", "[Ljava/lang/Object;", f1), ("java/util/ArrayList", "size", "I", f2)])
theorem nw_AL {Z : State} {a0 : Array Value} (tb : Own.Tb Z a0 tables_1) : Own.Nw Z a0 "java/util/ArrayList" [("java/util/AbstractList", "modCount", "I", (.int (0 : Int32))), ("java/util/ArrayList", "elementData", "[Ljava/lang/Object;", .null), ("java/util/ArrayList", "size", "I", (.int (0 : Int32)))] := (Own.Nw.cons (Or.inl (tb _ (List.mem_of_getElem? (i := 69) rfl))) (ty := .int) (by decide) rfl (Own.Nw.cons (Or.inl (tb _ (List.mem_of_getElem? (i := 73) rfl))) (ty := (.array (.object "java/lang/Object"))) (by decide) rfl (Own.Nw.cons (Or.inl (tb _ (List.mem_of_getElem? (i := 86) rfl))) (ty := .int) (by decide) rfl Own.Nw.nil)))
abbrev o_Unit (f0 f1 f2 f3 f4 f5 : Value) : Own.Pc := .inl ("com/example/latchwork/latchwork/engine/Unit", [("com/example/latchwork/latchwork/engine/SyncList", "more", "[Lcom/example/latchwork/latchwork/engine/SyncState;", f0), ("com/example/latchwork/latchwork/engine/Unit", "runs", "[Ljava/lang/Object;", f1), ("com/example/latchwork/latchwork/engine/SyncList", "count", "I", f2), ("com/example/latchwork/latchwork/engine/SyncList", "first", "Lcom/example/latchwork/latchwork/engine/SyncState;", f3), ("com/example/latchwork/latchwork/engine/Unit", "pending", "I", f4), ("com/example/latchwork/latchwork/engine/Unit", "unready", "I", f5)])
theorem nw_Unit {Z : State} {a0 : Array Value} (tb : Own.Tb Z a0 tables_1) : Own.Nw Z a0 "com/example/latchwork/latchwork/engine/Unit" [("com/example/latchwork/latchwork/engine/SyncList", "more", "[Lcom/example/latchwork/latchwork/engine/SyncState;", .null), ("com/example/latchwork/latchwork/engine/Unit", "runs", "[Ljava/lang/Object;", .null), ("com/example/latchwork/latchwork/engine/SyncList", "count", "I", (.int (0 : Int32))), ("com/example/latchwork/latchwork/engine/SyncList", "first", "Lcom/example/latchwork/latchwork/engine/SyncState;", .null), ("com/example/latchwork/latchwork/engine/Unit", "pending", "I", (.int (0 : Int32))), ("com/example/latchwork/latchwork/engine/Unit", "unready", "I", (.int (0 : Int32)))] := (Own.Nw.cons (Or.inl (tb _ (List.mem_of_getElem? (i := 157) rfl))) (ty := (.array (.object "com/example/latchwork/latchwork/engine/SyncState"))) (by decide) rfl (Own.Nw.cons (Or.inl (tb _ (List.mem_of_getElem? (i := 161) rfl))) (ty := (.array (.object "java/lang/Object"))) (by decide) rfl (Own.Nw.cons (Or.inl (tb _ (List.mem_of_getElem? (i := 169) rfl))) (ty := .int) (by decide) rfl (Own.Nw.cons (Or.inl (tb _ (List.mem_of_getElem? (i := 171) rfl))) (ty := (.object "com/example/latchwork/latchwork/engine/SyncState")) (by decide) rfl (Own.Nw.cons (Or.inl (tb _ (List.mem_of_getElem? (i := 180) rfl))) (ty := .int) (by decide) rfl (Own.Nw.cons (Or.inl (tb _ (List.mem_of_getElem? (i := 189) rfl))) (ty := .int) (by decide) rfl Own.Nw.nil))))))
set_option maxRecDepth 65536 in
set_option maxHeartbeats 4000000 in
theorem c_lof (l : Launch) {Z : State} {a0 : Array Value} (tb : Own.Tb Z a0 tables_1) (eL : Addr) (h : Heap) (HE : Ext Z.heap h) (SE : Sta Z Z.heap "java/util/ImmutableCollections" "EMPTY_LIST" "Ljava/util/ImmutableCollections$ListN;" (.ref eL)) :
    Own.Con l Z (⟨"java/util/List", "of", "()Ljava/util/List;"⟩ : MethodName) jdk_40_method_36_code 0 (some (.object "java/util/List")) ({ frames := 0, cells := 0, slots := 0, locals := 0 } : Room) #[] h (fun rr h' => rr = some (.ref eL) ∧ h = h') := by
  refine Own.Con.of (plainFor_of_name (by first | (simp [plainName, overriddenIn]; done) | decide +kernel)) #[] (fun m => by first | rfl | (simp [entryFrame, mkF, argsToLocals, Value.category, maxLocals]; done)) (fun K ok => ?_)
  refine Own.W.getS ok tb 22 rfl Via.refl (SE.ext HE) d_jdk_40_method_36_0 3 ?_
  exact Own.W.aret ok d_jdk_40_method_36_3 ⟨rfl, rfl⟩
set_option maxRecDepth 65536 in
set_option maxHeartbeats 4000000 in
theorem c_sini (l : Launch) {Z : State} {a0 : Array Value} (tb : Own.Tb Z a0 tables_1) (a : Addr) (nP : Addr) (nC : Addr) (eL : Addr) (n : Int32) (u : Int32) (h : Heap) (cs : List (Addr × Own.Pc)) (H : Own.HS Z h ((a, o_Sync .null .null .null (.int (0 : Int32)) (.int (0 : Int32)) .null (.int (0 : Int32)) (.int (0 : Int32)) .null (.int (0 : Int32)) (.int (0 : Int32)) (.int (0 : Int32)) (.int (0 : Int32))) :: cs)) (SP : Sta Z Z.heap "com/example/latchwork/latchwork/engine/SyncState" "NO_PARTS" "[Lcom/example/latchwork/latchwork/engine/SyncState$Part;" (.ref nP)) (SC : Sta Z Z.heap "com/example/latchwork/latchwork/model/Changes" "NONE" "Lcom/example/latchwork/latchwork/model/Changes;" (.ref nC)) (SE : Sta Z Z.heap "java/util/ImmutableCollections" "EMPTY_LIST" "Ljava/util/ImmutableCollections$ListN;" (.ref eL)) (hu : u = (0 : Int32) ∨ u = (1 : Int32)) :
    Own.Con l Z (⟨"com/example/latchwork/latchwork/engine/SyncState", "<init>", "(IZ)V"⟩ : MethodName) prog_38_method_1_code 3 none ({ frames := 1, cells := 0, slots := 0, locals := 16 } : Room) #[(.ref a), (.int n), (.int u)] h (fun rr h' => rr = none ∧ Own.HS Z h' ((a, o_Sync (.ref nP) (.ref nC) (.ref eL) (.int n) (.int u) .null (.int (0 : Int32)) (.int (0 : Int32)) .null (.int (0 : Int32)) (.int (0 : Int32)) (.int (0 : Int32)) (.int (0 : Int32))) :: cs)) := by
  refine Own.Con.of (plainFor_of_name (by first | (simp [plainName, overriddenIn]; done) | decide +kernel)) #[.val (.ref a), .val (.int n), .val (.int u)] (fun m => by first | rfl | (simp [entryFrame, mkF, argsToLocals, Value.category, maxLocals]; done)) (fun K ok => ?_)
  refine Own.W.aloadN ok d_prog_38_method_1_0 1 rfl rfl ?_
  refine Own.W.initO ok tb 6 7 8 rfl rfl rfl d_prog_38_method_1_1 0 4 ?_
  refine Own.W.aloadN ok d_prog_38_method_1_4 5 rfl rfl ?_
  refine Own.W.getS ok tb 9 rfl Via.refl (H.sta SP) d_prog_38_method_1_5 8 ?_
  refine Own.W.putF ok tb H (i := 0) (j := 0) (ty := (.array (.object "com/example/latchwork/latchwork/engine/SyncState$Part"))) (w' := (.ref nP)) rfl rfl 11 1 rfl rfl Via.refl (Or.inl (tb _ (List.mem_of_getElem? (i := 12) rfl))) (Own.Lay.of (nw_Sync tb) rfl) (by decide) rfl rfl d_prog_38_method_1_8 11 ((a, o_Sync (.ref nP) .null .null (.int (0 : Int32)) (.int (0 : Int32)) .null (.int (0 : Int32)) (.int (0 : Int32)) .null (.int (0 : Int32)) (.int (0 : Int32)) (.int (0 : Int32)) (.int (0 : Int32))) :: cs) rfl (fun h1 H2 => ?_)
  refine Own.W.aloadN ok d_prog_38_method_1_11 12 rfl rfl ?_
  refine Own.W.getS ok tb 13 rfl Via.refl (H2.sta SC) d_prog_38_method_1_12 15 ?_
  refine Own.W.putF ok tb H2 (i := 0) (j := 1) (ty := (.object "com/example/latchwork/latchwork/model/Changes")) (w' := (.ref nC)) rfl rfl 16 1 rfl rfl Via.refl (Or.inl (tb _ (List.mem_of_getElem? (i := 17) rfl))) (Own.Lay.of (nw_Sync tb) rfl) (by decide) rfl rfl d_prog_38_method_1_15 18 ((a, o_Sync (.ref nP) (.ref nC) .null (.int (0 : Int32)) (.int (0 : Int32)) .null (.int (0 : Int32)) (.int (0 : Int32)) .null (.int (0 : Int32)) (.int (0 : Int32)) (.int (0 : Int32)) (.int (0 : Int32))) :: cs) rfl (fun h3 H4 => ?_)
  refine Own.W.aloadN ok d_prog_38_method_1_18 19 rfl rfl ?_
  refine Own.W.callS ok tb (argsL := []) (rest := [(.ref a)]) 18 19 20 21 rfl rfl rfl rfl d_prog_38_method_1_19 pd_0 (c_lof l tb eL h3 H4.1 SE) 1 0 0 22 ?_
  rintro _ _ ⟨rfl, rfl⟩
  show Own.W l Z _ K _ h3 0 0 22 #[.val (.ref a), .val (.int n), .val (.int u)] [(.ref eL), (.ref a)]
  refine Own.W.putF ok tb H4 (i := 0) (j := 2) (ty := (.object "java/util/List")) (w' := (.ref eL)) rfl rfl 24 1 rfl rfl Via.refl (Or.inl (tb _ (List.mem_of_getElem? (i := 25) rfl))) (Own.Lay.of (nw_Sync tb) rfl) (by decide) rfl rfl d_prog_38_method_1_22 25 ((a, o_Sync (.ref nP) (.ref nC) (.ref eL) (.int (0 : Int32)) (.int (0 : Int32)) .null (.int (0 : Int32)) (.int (0 : Int32)) .null (.int (0 : Int32)) (.int (0 : Int32)) (.int (0 : Int32)) (.int (0 : Int32))) :: cs) rfl (fun h5 H6 => ?_)
  refine Own.W.aloadN ok d_prog_38_method_1_25 26 rfl rfl ?_
  refine Own.W.iloadN ok d_prog_38_method_1_26 27 rfl ?_
  refine Own.W.putF ok tb H6 (i := 0) (j := 3) (ty := .int) (w' := (.int n)) rfl rfl 26 1 rfl rfl Via.refl (Or.inr ⟨(tb _ (List.mem_of_getElem? (i := 27) rfl)), rfl, rfl⟩) (Own.Lay.of (nw_Sync tb) rfl) (by decide) rfl rfl d_prog_38_method_1_27 30 ((a, o_Sync (.ref nP) (.ref nC) (.ref eL) (.int n) (.int (0 : Int32)) .null (.int (0 : Int32)) (.int (0 : Int32)) .null (.int (0 : Int32)) (.int (0 : Int32)) (.int (0 : Int32)) (.int (0 : Int32))) :: cs) rfl (fun h7 H8 => ?_)
  refine Own.W.aloadN ok d_prog_38_method_1_30 31 rfl rfl ?_
  refine Own.W.iloadN ok d_prog_38_method_1_31 32 rfl ?_
  refine Own.W.putF ok tb H8 (i := 0) (j := 4) (ty := .boolean) (w' := (.int u)) rfl rfl 28 1 rfl rfl Via.refl (Or.inr ⟨(tb _ (List.mem_of_getElem? (i := 29) rfl)), rfl, rfl⟩) (Own.Lay.of (nw_Sync tb) rfl) (by decide) (by rcases hu with rfl | rfl <;> rfl) (by rcases hu with rfl | rfl <;> rfl) d_prog_38_method_1_32 35 ((a, o_Sync (.ref nP) (.ref nC) (.ref eL) (.int n) (.int u) .null (.int (0 : Int32)) (.int (0 : Int32)) .null (.int (0 : Int32)) (.int (0 : Int32)) (.int (0 : Int32)) (.int (0 : Int32))) :: cs) rfl (fun h9 H10 => ?_)
  exact Own.W.vret ok d_prog_38_method_1_35 ⟨rfl, H10⟩
set_option maxRecDepth 65536 in
set_option maxHeartbeats 4000000 in
theorem c_pend (l : Launch) {Z : State} {a0 : Array Value} (tb : Own.Tb Z a0 tables_1) (a : Addr) (v : Int32) (h : Heap) (F : Fld Z h a "com/example/latchwork/latchwork/engine/SyncState" "pending" "I" (.int v)) :
    Own.Con l Z (⟨"com/example/latchwork/latchwork/engine/SyncState", "pending", "()I"⟩ : MethodName) prog_38_method_9_code 1 (some .int) ({ frames := 0, cells := 0, slots := 0, locals := 0 } : Room) #[(.ref a)] h (fun rr h' => rr = some (.int v) ∧ h = h') := by
  refine Own.Con.of (plainFor_of_name (by first | (simp [plainName, overriddenIn]; done) | decide +kernel)) #[.val (.ref a)] (fun m => by first | rfl | (simp [entryFrame, mkF, argsToLocals, Value.category, maxLocals]; done)) (fun K ok => ?_)
  refine Own.W.aloadN ok d_prog_38_method_9_0 1 rfl rfl ?_
  refine Own.W.getF ok tb 177 rfl Via.refl F d_prog_38_method_9_1 4 ?_
  exact Own.W.iret ok d_prog_38_method_9_4 rfl ⟨rfl, rfl⟩
set_option maxRecDepth 65536 in
set_option maxHeartbeats 4000000 in
theorem c_ready (l : Launch) {Z : State} {a0 : Array Value} (tb : Own.Tb Z a0 tables_1) (a : Addr) (v : Int32) (h : Heap) (F : Fld Z h a "com/example/latchwork/latchwork/engine/SyncState" "ready" "Z" (.int v)) (hv : v = (0 : Int32) ∨ v = (1 : Int32)) :
    Own.Con l Z (⟨"com/example/latchwork/latchwork/engine/SyncState", "isReady", "()Z"⟩ : MethodName) prog_38_method_4_code 1 (some .boolean) ({ frames := 0, cells := 0, slots := 0, locals := 0 } : Room) #[(.ref a)] h (fun rr h' => rr = some (.int v) ∧ h = h') := by
  refine Own.Con.of (plainFor_of_name (by first | (simp [plainName, overriddenIn]; done) | decide +kernel)) #[.val (.ref a)] (fun m => by first | rfl | (simp [entryFrame, mkF, argsToLocals, Value.category, maxLocals]; done)) (fun K ok => ?_)
  refine Own.W.aloadN ok d_prog_38_method_4_0 1 rfl rfl ?_
  refine Own.W.getF ok tb 186 rfl Via.refl F d_prog_38_method_4_1 4 ?_
  exact Own.W.iret ok d_prog_38_method_4_4 (by rcases hv with rfl | rfl <;> rfl) ⟨rfl, rfl⟩
set_option maxRecDepth 65536 in
set_option maxHeartbeats 4000000 in
theorem c_ended (l : Launch) {Z : State} {a0 : Array Value} (tb : Own.Tb Z a0 tables_1) (a : Addr) (v : Int32) (h : Heap) (F : Fld Z h a "com/example/latchwork/latchwork/engine/SyncState" "ended" "Z" (.int v)) (hv : v = (0 : Int32) ∨ v = (1 : Int32)) :
    Own.Con l Z (⟨"com/example/latchwork/latchwork/engine/SyncState", "isEnded", "()Z"⟩ : MethodName) prog_38_method_5_code 1 (some .boolean) ({ frames := 0, cells := 0, slots := 0, locals := 0 } : Room) #[(.ref a)] h (fun rr h' => rr = some (.int v) ∧ h = h') := by
  refine Own.Con.of (plainFor_of_name (by first | (simp [plainName, overriddenIn]; done) | decide +kernel)) #[.val (.ref a)] (fun m => by first | rfl | (simp [entryFrame, mkF, argsToLocals, Value.category, maxLocals]; done)) (fun K ok => ?_)
  refine Own.W.aloadN ok d_prog_38_method_5_0 1 rfl rfl ?_
  refine Own.W.getF ok tb 231 rfl Via.refl F d_prog_38_method_5_1 4 ?_
  exact Own.W.iret ok d_prog_38_method_5_4 (by rcases hv with rfl | rfl <;> rfl) ⟨rfl, rfl⟩
set_option maxRecDepth 65536 in
set_option maxHeartbeats 4000000 in
theorem c_alsize (l : Launch) {Z : State} {a0 : Array Value} (tb : Own.Tb Z a0 tables_1) (a : Addr) (v : Int32) (h : Heap) (F : Fld Z h a "java/util/ArrayList" "size" "I" (.int v)) :
    Own.Con l Z (⟨"java/util/ArrayList", "size", "()I"⟩ : MethodName) jdk_38_method_8_code 1 (some .int) ({ frames := 0, cells := 0, slots := 0, locals := 0 } : Room) #[(.ref a)] h (fun rr h' => rr = some (.int v) ∧ h = h') := by
  refine Own.Con.of (plainFor_of_name (by first | (simp [plainName, overriddenIn]; done) | decide +kernel)) #[.val (.ref a)] (fun m => by first | rfl | (simp [entryFrame, mkF, argsToLocals, Value.category, maxLocals]; done)) (fun K ok => ?_)
  refine Own.W.aloadN ok d_jdk_38_method_8_0 1 rfl rfl ?_
  refine Own.W.getF ok tb 85 rfl Via.refl F d_jdk_38_method_8_1 4 ?_
  exact Own.W.iret ok d_jdk_38_method_8_4 rfl ⟨rfl, rfl⟩
set_option maxRecDepth 65536 in
set_option maxHeartbeats 4000000 in
theorem c_par (l : Launch) {Z : State} {a0 : Array Value} (tb : Own.Tb Z a0 tables_1) (a : Addr) (q : Addr) (h : Heap) (F : Fld Z h a "com/example/latchwork/latchwork/engine/SyncState" "parent" "Lcom/example/latchwork/latchwork/engine/SyncState;" (.ref q)) :
    Own.Con l Z (⟨"com/example/latchwork/latchwork/engine/SyncState", "parent", "()Lcom/example/latchwork/latchwork/engine/SyncState;"⟩ : MethodName) prog_38_method_13_code 1 (some (.object "com/example/latchwork/latchwork/engine/SyncState")) ({ frames := 0, cells := 0, slots := 0, locals := 0 } : Room) #[(.ref a)] h (fun rr h' => rr = some (.ref q) ∧ h = h') := by
  refine Own.Con.of (plainFor_of_name (by first | (simp [plainName, overriddenIn]; done) | decide +kernel)) #[.val (.ref a)] (fun m => by first | rfl | (simp [entryFrame, mkF, argsToLocals, Value.category, maxLocals]; done)) (fun K ok => ?_)
  refine Own.W.aloadN ok d_prog_38_method_13_0 1 rfl rfl ?_
  refine Own.W.getF ok tb 35 rfl Via.refl F d_prog_38_method_13_1 4 ?_
  exact Own.W.aret ok d_prog_38_method_13_4 ⟨rfl, rfl⟩
set_option maxRecDepth 65536 in
set_option maxHeartbeats 4000000 in
theorem c_lnE (l : Launch) {Z : State} {a0 : Array Value} (tb : Own.Tb Z a0 tables_1) (a : Addr) (e : Addr) (ce : Cell) (h : Heap) (F : Fld Z h a "java/util/ImmutableCollections$ListN" "elements" "[Ljava/lang/Object;" (.ref e)) (A : RoadKit.Arr Z h e ce (.object "java/lang/Object")) (he : ce.slots.size.toInt32 = (0 : Int32)) :
    Own.Con l Z (⟨"java/util/ImmutableCollections$ListN", "isEmpty", "()Z"⟩ : MethodName) jdk_45_method_2_code 1 (some .boolean) ({ frames := 0, cells := 0, slots := 0, locals := 0 } : Room) #[(.ref a)] h (fun rr h' => rr = some (.int (1 : Int32)) ∧ h = h') := by
  refine Own.Con.of (plainFor_of_name (by first | (simp [plainName, overriddenIn]; done) | decide +kernel)) #[.val (.ref a)] (fun m => by first | rfl | (simp [entryFrame, mkF, argsToLocals, Value.category, maxLocals]; done)) (fun K ok => ?_)
  refine Own.W.aloadN ok d_jdk_45_method_2_0 1 rfl rfl ?_
  refine Own.W.getF ok tb 47 rfl Via.refl F d_jdk_45_method_2_1 4 ?_
  refine Own.W.alenA ok A d_jdk_45_method_2_4 5 (0 : Int32) he ?_
  refine Own.W.ifF ok d_jdk_45_method_2_5 8 (by decide : (0 : Int32) = (0 : Int32)) ?_
  refine Own.W.iconst ok d_jdk_45_method_2_8 9 (1 : Int32) rfl ?_
  refine Own.W.goto ok d_jdk_45_method_2_9 13 ?_
  exact Own.W.iret ok d_jdk_45_method_2_13 rfl ⟨rfl, rfl⟩
set_option maxRecDepth 65536 in
set_option maxHeartbeats 4000000 in
theorem c_alE (l : Launch) {Z : State} {a0 : Array Value} (tb : Own.Tb Z a0 tables_1) (a : Addr) (h : Heap) (F : Fld Z h a "java/util/ArrayList" "size" "I" (.int (1 : Int32))) :
    Own.Con l Z (⟨"java/util/ArrayList", "isEmpty", "()Z"⟩ : MethodName) jdk_38_method_9_code 1 (some .boolean) ({ frames := 0, cells := 0, slots := 0, locals := 0 } : Room) #[(.ref a)] h (fun rr h' => rr = some (.int (0 : Int32)) ∧ h = h') := by
  refine Own.Con.of (plainFor_of_name (by first | (simp [plainName, overriddenIn]; done) | decide +kernel)) #[.val (.ref a)] (fun m => by first | rfl | (simp [entryFrame, mkF, argsToLocals, Value.category, maxLocals]; done)) (fun K ok => ?_)
  refine Own.W.aloadN ok d_jdk_38_method_9_0 1 rfl rfl ?_
  refine Own.W.getF ok tb 85 rfl Via.refl F d_jdk_38_method_9_1 4 ?_
  refine Own.W.ifT ok d_jdk_38_method_9_4 11 (by decide : ¬ ((1 : Int32) = (0 : Int32))) ?_
  refine Own.W.iconst ok d_jdk_38_method_9_11 12 (0 : Int32) rfl ?_
  exact Own.W.iret ok d_jdk_38_method_9_12 rfl ⟨rfl, rfl⟩
set_option maxRecDepth 65536 in
set_option maxHeartbeats 4000000 in
theorem c_ac (l : Launch) {Z : State} {a0 : Array Value} (tb : Own.Tb Z a0 tables_1) (a : Addr) (h : Heap) :
    Own.Con l Z (⟨"java/util/AbstractCollection", "<init>", "()V"⟩ : MethodName) jdk_22_method_1_code 1 none ({ frames := 1, cells := 0, slots := 0, locals := 12 } : Room) #[(.ref a)] h (fun rr h' => rr = none ∧ h = h') := by
  refine Own.Con.of (plainFor_of_name (by first | (simp [plainName, overriddenIn]; done) | decide +kernel)) #[.val (.ref a)] (fun m => by first | rfl | (simp [entryFrame, mkF, argsToLocals, Value.category, maxLocals]; done)) (fun K ok => ?_)
  refine Own.W.aloadN ok d_jdk_22_method_1_0 1 rfl rfl ?_
  refine Own.W.initO ok tb 67 7 8 rfl rfl rfl d_jdk_22_method_1_1 0 4 ?_
  exact Own.W.vret ok d_jdk_22_method_1_4 ⟨rfl, rfl⟩
set_option maxRecDepth 65536 in
set_option maxHeartbeats 4000000 in
theorem c_abl (l : Launch) {Z : State} {a0 : Array Value} (tb : Own.Tb Z a0 tables_1) (a : Addr) (h : Heap) (cs : List (Addr × Own.Pc)) (H : Own.HS Z h ((a, o_AL (.int (0 : Int32)) .null (.int (0 : Int32))) :: cs)) :
    Own.Con l Z (⟨"java/util/AbstractList", "<init>", "()V"⟩ : MethodName) jdk_39_method_1_code 1 none ({ frames := 2, cells := 0, slots := 0, locals := 24 } : Room) #[(.ref a)] h (fun rr h' => rr = none ∧ Own.HS Z h' ((a, o_AL (.int (0 : Int32)) .null (.int (0 : Int32))) :: cs)) := by
  refine Own.Con.of (plainFor_of_name (by first | (simp [plainName, overriddenIn]; done) | decide +kernel)) #[.val (.ref a)] (fun m => by first | rfl | (simp [entryFrame, mkF, argsToLocals, Value.category, maxLocals]; done)) (fun K ok => ?_)
  refine Own.W.aloadN ok d_jdk_39_method_1_0 1 rfl rfl ?_
  refine Own.W.callI ok tb (a := a) (argsL := []) (rest := []) 61 62 65 66 rfl rfl rfl rfl d_jdk_39_method_1_1 pd_1 (c_ac l tb a h) 0 0 0 4 ?_
  rintro _ _ ⟨rfl, rfl⟩
  show Own.W l Z _ K _ h 0 0 4 #[.val (.ref a)] []
  refine Own.W.aloadN ok d_jdk_39_method_1_4 5 rfl rfl ?_
  refine Own.W.iconst ok d_jdk_39_method_1_5 6 (0 : Int32) rfl ?_
  refine Own.W.putF ok tb H (i := 0) (j := 0) (ty := .int) (w' := (.int (0 : Int32))) rfl rfl 68 50 rfl rfl Via.refl (Or.inl (tb _ (List.mem_of_getElem? (i := 69) rfl))) (Own.Lay.of (nw_AL tb) rfl) (by decide) rfl rfl d_jdk_39_method_1_6 9 ((a, o_AL (.int (0 : Int32)) .null (.int (0 : Int32))) :: cs) rfl (fun h1 H2 => ?_)
  exact Own.W.vret ok d_jdk_39_method_1_9 ⟨rfl, H2⟩
set_option maxRecDepth 65536 in
set_option maxHeartbeats 4000000 in
theorem c_ali (l : Launch) {Z : State} {a0 : Array Value} (tb : Own.Tb Z a0 tables_1) (a : Addr) (h : Heap) (cs : List (Addr × Own.Pc)) (H : Own.HS Z h ((a, o_AL (.int (0 : Int32)) .null (.int (0 : Int32))) :: cs)) :
    Own.Con l Z (⟨"java/util/ArrayList", "<init>", "(I)V"⟩ : MethodName) jdk_38_method_1_code 2 none ({ frames := 3, cells := 1, slots := 1, locals := 40 } : Room) #[(.ref a), (.int (1 : Int32))] h (fun rr h' => ∃ (b : Addr) (k : ClassId), rr = none ∧ Own.HS Z h' ((a, o_AL (.int (0 : Int32)) (.ref b) (.int (0 : Int32))) :: (b, .inr ((.object "java/lang/Object"), k, [.null])) :: cs) ∧ Ovr Z k "java/lang/Object" ∧ Z.vm.findClass "[Ljava/lang/Object;" = some k) := by
  refine Own.Con.of (plainFor_of_name (by first | (simp [plainName, overriddenIn]; done) | decide +kernel)) #[.val (.ref a), .val (.int (1 : Int32))] (fun m => by first | rfl | (simp [entryFrame, mkF, argsToLocals, Value.category, maxLocals]; done)) (fun K ok => ?_)
  refine Own.W.aloadN ok d_jdk_38_method_1_0 1 rfl rfl ?_
  refine Own.W.callI ok tb (a := a) (argsL := []) (rest := []) 55 56 59 60 rfl rfl rfl rfl d_jdk_38_method_1_1 pd_1 (c_abl l tb a h (cs) H) 0 0 0 4 ?_
  rintro _ h1 ⟨rfl, H2⟩
  show Own.W l Z _ K _ h1 0 0 4 #[.val (.ref a), .val (.int (1 : Int32))] []
  refine Own.W.iloadN ok d_jdk_38_method_1_4 5 rfl ?_
  refine Own.W.ifF ok d_jdk_38_method_1_5 8 (by decide : (0 : Int32) < (1 : Int32)) ?_
  refine Own.W.aloadN ok d_jdk_38_method_1_8 9 rfl rfl ?_
  refine Own.W.iloadN ok d_jdk_38_method_1_9 10 rfl ?_
  refine Own.W.newRE ok tb H2 70 71 rfl rfl d_jdk_38_method_1_10 1 [.null] rfl 1 1 13 (by decide) (by decide) (ad := "[Ljava/lang/Object;") (by decide) (fun a3 k4 h5 O7 KN8 H6 => ?_)
  show Own.W l Z _ K _ h5 1 1 13 #[.val (.ref a), .val (.int (1 : Int32))] [(.ref a3), (.ref a)]
  refine Own.W.putF ok tb H6 (i := 1) (j := 1) (ty := (.array (.object "java/lang/Object"))) (w' := (.ref a3)) rfl rfl 72 50 rfl rfl Via.refl (Or.inl (tb _ (List.mem_of_getElem? (i := 73) rfl))) (Own.Lay.of (nw_AL tb) rfl) (by decide) rfl rfl d_jdk_38_method_1_13 16 ((a3, .inr ((.object "java/lang/Object"), k4, [.null])) :: (a, o_AL (.int (0 : Int32)) (.ref a3) (.int (0 : Int32))) :: cs) rfl (fun h9 H10 => ?_)
  refine Own.W.goto ok d_jdk_38_method_1_16 60 ?_
  exact Own.W.vret ok d_jdk_38_method_1_60 ⟨a3, k4, rfl, (H10.pull 1 ((a, o_AL (.int (0 : Int32)) (.ref a3) (.int (0 : Int32))) :: (a3, .inr ((.object "java/lang/Object"), k4, [.null])) :: cs) rfl rfl), O7, KN8⟩
abbrev mxI (x y : Int32) : Int32 := if x < y then y else x
abbrev mnI (x y : Int32) : Int32 := if y < x then y else x
set_option maxRecDepth 65536 in
set_option maxHeartbeats 4000000 in
theorem c_max (l : Launch) {Z : State} {a0 : Array Value} (tb : Own.Tb Z a0 tables_1) (x' : Int32) (y' : Int32) (h : Heap) :
    Own.Con l Z (⟨"java/lang/Math", "max", "(II)I"⟩ : MethodName) jdk_29_method_65_code 2 (some .int) ({ frames := 0, cells := 0, slots := 0, locals := 0 } : Room) #[(.int x'), (.int y')] h (fun rr h' => rr = some (.int (mxI x' y')) ∧ h = h') := by
  refine Own.Con.of (Jvm.Free.JP.mathPlain rfl (by decide +kernel)) #[.val (.int x'), .val (.int y')] (fun m => by first | rfl | (simp [entryFrame, mkF, argsToLocals, Value.category, maxLocals]; done)) (fun K ok => ?_)
  refine Own.W.iloadN ok d_jdk_29_method_65_0 1 rfl ?_
  refine Own.W.iloadN ok d_jdk_29_method_65_1 2 rfl ?_
  refine Own.W.icmp ok d_jdk_29_method_65_2 9 5 (fun (hc1 : x' < y') => ?_) (fun (hc1 : ¬ (x' < y')) => ?_)
  · refine Own.W.iloadN ok d_jdk_29_method_65_9 10 rfl ?_
    exact Own.W.iret ok d_jdk_29_method_65_10 rfl ⟨by rw [mxI, if_pos hc1], rfl⟩
  · refine Own.W.iloadN ok d_jdk_29_method_65_5 6 rfl ?_
    refine Own.W.goto ok d_jdk_29_method_65_6 10 ?_
    exact Own.W.iret ok d_jdk_29_method_65_10 rfl ⟨by rw [mxI, if_neg hc1], rfl⟩
set_option maxRecDepth 65536 in
set_option maxHeartbeats 4000000 in
theorem c_min (l : Launch) {Z : State} {a0 : Array Value} (tb : Own.Tb Z a0 tables_1) (x' : Int32) (y' : Int32) (h : Heap) :
    Own.Con l Z (⟨"java/lang/Math", "min", "(II)I"⟩ : MethodName) jdk_29_method_69_code 2 (some .int) ({ frames := 0, cells := 0, slots := 0, locals := 0 } : Room) #[(.int x'), (.int y')] h (fun rr h' => rr = some (.int (mnI x' y')) ∧ h = h') := by
  refine Own.Con.of (Jvm.Free.JP.mathPlain rfl (by decide +kernel)) #[.val (.int x'), .val (.int y')] (fun m => by first | rfl | (simp [entryFrame, mkF, argsToLocals, Value.category, maxLocals]; done)) (fun K ok => ?_)
  refine Own.W.iloadN ok d_jdk_29_method_69_0 1 rfl ?_
  refine Own.W.iloadN ok d_jdk_29_method_69_1 2 rfl ?_
  refine Own.W.icmp ok d_jdk_29_method_69_2 9 5 (fun (hc1 : y' < x') => ?_) (fun (hc1 : ¬ (y' < x')) => ?_)
  · refine Own.W.iloadN ok d_jdk_29_method_69_9 10 rfl ?_
    exact Own.W.iret ok d_jdk_29_method_69_10 rfl ⟨by rw [mnI, if_pos hc1], rfl⟩
  · refine Own.W.iloadN ok d_jdk_29_method_69_5 6 rfl ?_
    refine Own.W.goto ok d_jdk_29_method_69_6 10 ?_
    exact Own.W.iret ok d_jdk_29_method_69_10 rfl ⟨by rw [mnI, if_neg hc1], rfl⟩
set_option maxRecDepth 65536 in
set_option maxHeartbeats 4000000 in
theorem c_nl (l : Launch) {Z : State} {a0 : Array Value} (tb : Own.Tb Z a0 tables_1)  (h : Heap) :
    Own.Con l Z (⟨"jdk/internal/util/ArraysSupport", "newLength", "(III)I"⟩ : MethodName) jdk_48_method_27_code 4 (some .int) ({ frames := 1, cells := 0, slots := 0, locals := 20 } : Room) #[(.int (1 : Int32)), (.int (1 : Int32)), (.int (0 : Int32))] h (fun rr h' => rr = some (.int (2 : Int32)) ∧ h = h') := by
  refine Own.Con.of (plainFor_of_name (by first | (simp [plainName, overriddenIn]; done) | decide +kernel)) #[.val (.int (1 : Int32)), .val (.int (1 : Int32)), .val (.int (0 : Int32)), .unset] (fun m => by first | rfl | (simp [entryFrame, mkF, argsToLocals, Value.category, maxLocals]; done)) (fun K ok => ?_)
  refine Own.W.iloadN ok d_jdk_48_method_27_0 1 rfl ?_
  refine Own.W.iloadN ok d_jdk_48_method_27_1 2 rfl ?_
  refine Own.W.iloadN ok d_jdk_48_method_27_2 3 rfl ?_
  refine Own.W.callS ok tb (argsL := [(.int (1 : Int32)), (.int (0 : Int32))]) (rest := [(.int (1 : Int32))]) 112 113 114 115 rfl rfl rfl rfl d_jdk_48_method_27_3 pd_2 (c_max l tb (1 : Int32) (0 : Int32) h) 1 0 0 6 ?_
  rintro _ _ ⟨rfl, rfl⟩
  show Own.W l Z _ K _ h 0 0 6 #[.val (.int (1 : Int32)), .val (.int (1 : Int32)), .val (.int (0 : Int32)), .unset] [(.int (mxI (1 : Int32) (0 : Int32))), (.int (1 : Int32))]
  show Own.W l Z _ K _ h 0 0 6 #[.val (.int (1 : Int32)), .val (.int (1 : Int32)), .val (.int (0 : Int32)), .unset] [(.int (1 : Int32)), (.int (1 : Int32))]
  refine Own.W.iaddV ok d_jdk_48_method_27_6 7 (2 : Int32) (by decide) ?_
  refine Own.W.istoreN ok d_jdk_48_method_27_7 8 #[.val (.int (1 : Int32)), .val (.int (1 : Int32)), .val (.int (0 : Int32)), .val (.int (2 : Int32))] rfl ?_
  refine Own.W.iconst ok d_jdk_48_method_27_8 9 (0 : Int32) rfl ?_
  refine Own.W.iloadN ok d_jdk_48_method_27_9 10 rfl ?_
  refine Own.W.icmpF ok d_jdk_48_method_27_10 13 (by decide : (0 : Int32) < (2 : Int32)) ?_
  refine Own.W.iloadN ok d_jdk_48_method_27_13 14 rfl ?_
  refine Own.W.ldc ok tb 116 rfl d_jdk_48_method_27_14 16 ?_
  refine Own.W.icmpF ok d_jdk_48_method_27_16 19 (by decide : ¬ ((2147483639 : Int32) < (2 : Int32))) ?_
  refine Own.W.iloadN ok d_jdk_48_method_27_19 20 rfl ?_
  exact Own.W.iret ok d_jdk_48_method_27_20 rfl ⟨rfl, rfl⟩
set_option maxRecDepth 65536 in
set_option maxHeartbeats 4000000 in
theorem c_cp3 (l : Launch) {Z : State} {a0 : Array Value} (tb : Own.Tb Z a0 tables_1) (d : Addr) (c : Addr) (p : Addr) (nP : Addr) (nC : Addr) (eL : Addr) (mr : Addr) (k : ClassId) (m : Int32) (h : Heap) (cs : List (Addr × Own.Pc)) (H : Own.HS Z h ((d, .inr ((.object "java/lang/Object"), k, [(.ref c)])) :: (c, o_Sync (.ref nP) (.ref nC) (.ref eL) (.int m) (.int (0 : Int32)) (.ref p) (.int (0 : Int32)) (.int (0 : Int32)) .null (.int (0 : Int32)) (.int (0 : Int32)) (.int (0 : Int32)) (.int (0 : Int32))) :: cs)) (M : Own.Mr Z "[Ljava/lang/Object;" mr) :
    Own.Con l Z (⟨"java/util/Arrays", "copyOf", "([Ljava/lang/Object;ILjava/lang/Class;)[Ljava/lang/Object;"⟩ : MethodName) jdk_65_method_120_code 4 (some (.array (.object "java/lang/Object"))) ({ frames := 1, cells := 1, slots := 2, locals := 40 } : Room) #[(.ref d), (.int (2 : Int32)), (.ref mr)] h (fun rr h' => ∃ (b : Addr) (k2 : ClassId), rr = some (.ref b) ∧ Own.HS Z h' ((b, .inr ((.object "java/lang/Object"), k2, [(.ref c), .null])) :: (d, .inr ((.object "java/lang/Object"), k, [(.ref c)])) :: (c, o_Sync (.ref nP) (.ref nC) (.ref eL) (.int m) (.int (0 : Int32)) (.ref p) (.int (0 : Int32)) (.int (0 : Int32)) .null (.int (0 : Int32)) (.int (0 : Int32)) (.int (0 : Int32)) (.int (0 : Int32))) :: cs) ∧ Ovr Z k2 "java/lang/Object") := by
  refine Own.Con.of (plainFor_of_name (by first | (simp [plainName, overriddenIn]; done) | decide +kernel)) #[.val (.ref d), .val (.int (2 : Int32)), .val (.ref mr), .unset] (fun m => by first | rfl | (simp [entryFrame, mkF, argsToLocals, Value.category, maxLocals]; done)) (fun K ok => ?_)
  refine Own.W.aloadN ok d_jdk_65_method_120_0 1 rfl rfl ?_
  refine Own.W.ldcM ok tb 130 rfl M d_jdk_65_method_120_1 3 ?_
  refine Own.W.acmp ok d_jdk_65_method_120_3 6 true (decide_eq_true rfl) ?_
  refine Own.W.iloadN ok d_jdk_65_method_120_6 7 rfl ?_
  refine Own.W.newRE ok tb H 131 71 rfl rfl d_jdk_65_method_120_7 2 [.null, .null] rfl 1 2 10 (by decide) (by decide) (ad := "[Ljava/lang/Object;") (by decide) (fun a1 k2 h3 O5 KN6 H4 => ?_)
  show Own.W l Z _ K _ h3 1 2 10 #[.val (.ref d), .val (.int (2 : Int32)), .val (.ref mr), .unset] [(.ref a1)]
  refine Own.W.goto ok d_jdk_65_method_120_10 24 ?_
  refine Own.W.astoreN ok d_jdk_65_method_120_24 25 #[.val (.ref d), .val (.int (2 : Int32)), .val (.ref mr), .val (.ref a1)] rfl rfl ?_
  refine Own.W.aloadN ok d_jdk_65_method_120_25 26 rfl rfl ?_
  refine Own.W.iconst ok d_jdk_65_method_120_26 27 (0 : Int32) rfl ?_
  refine Own.W.aloadN ok d_jdk_65_method_120_27 28 rfl rfl ?_
  refine Own.W.iconst ok d_jdk_65_method_120_28 29 (0 : Int32) rfl ?_
  refine Own.W.aloadN ok d_jdk_65_method_120_29 30 rfl rfl ?_
  refine Own.W.alen ok H4 (i := 1) rfl d_jdk_65_method_120_30 31 (1 : Int32) rfl ?_
  refine Own.W.iloadN ok d_jdk_65_method_120_31 32 rfl ?_
  refine Own.W.callS ok tb (argsL := [(.int (1 : Int32)), (.int (2 : Int32))]) (rest := [(.int (0 : Int32)), (.ref a1), (.int (0 : Int32)), (.ref d)]) 132 133 114 134 rfl rfl rfl rfl d_jdk_65_method_120_32 pd_2 (c_min l tb (1 : Int32) (2 : Int32) h3) 4 1 2 35 ?_
  rintro _ _ ⟨rfl, rfl⟩
  show Own.W l Z _ K _ h3 1 2 35 #[.val (.ref d), .val (.int (2 : Int32)), .val (.ref mr), .val (.ref a1)] [(.int (mnI (1 : Int32) (2 : Int32))), (.int (0 : Int32)), (.ref a1), (.int (0 : Int32)), (.ref d)]
  show Own.W l Z _ K _ h3 1 2 35 #[.val (.ref d), .val (.int (2 : Int32)), .val (.ref mr), .val (.ref a1)] [(.int (1 : Int32)), (.int (0 : Int32)), (.ref a1), (.int (0 : Int32)), (.ref d)]
  refine Own.W.acopy ok tb H4 (i := 1) (j := 0) rfl rfl 135 138 136 137 rfl rfl rfl rfl [.ref c] (Or.inr ⟨rfl, rfl, (H4.sto (i := 0) rfl O5 (Ins.of_exa (H4.exa (i := 2) rfl) (tb _ (List.mem_of_getElem? (i := 92) rfl)))), trivial⟩) (by decide) (by decide) (by decide) (Nat.le_of_ble_eq_true rfl) (Nat.le_of_ble_eq_true rfl) rfl (Nat.le_of_ble_eq_true rfl) (Nat.le_of_ble_eq_true rfl) (by intro v hv; simp only [List.mem_cons, List.not_mem_nil, or_false] at hv; rcases hv with rfl <;> rfl) (by intro v hv; simp only [List.mem_cons, List.not_mem_nil, or_false] at hv; rcases hv with rfl | rfl <;> rfl) d_jdk_65_method_120_35 0 38 ((a1, .inr ((.object "java/lang/Object"), k2, [(.ref c), .null])) :: (d, .inr ((.object "java/lang/Object"), k, [(.ref c)])) :: (c, o_Sync (.ref nP) (.ref nC) (.ref eL) (.int m) (.int (0 : Int32)) (.ref p) (.int (0 : Int32)) (.int (0 : Int32)) .null (.int (0 : Int32)) (.int (0 : Int32)) (.int (0 : Int32)) (.int (0 : Int32))) :: cs) rfl (fun h7 H8 => ?_)
  show Own.W l Z _ K _ h7 1 2 38 #[.val (.ref d), .val (.int (2 : Int32)), .val (.ref mr), .val (.ref a1)] []
  refine Own.W.aloadN ok d_jdk_65_method_120_38 39 rfl rfl ?_
  exact Own.W.aret ok d_jdk_65_method_120_39 ⟨a1, k2, rfl, H8, O5⟩
set_option maxRecDepth 65536 in
set_option maxHeartbeats 4000000 in
theorem c_cp2 (l : Launch) {Z : State} {a0 : Array Value} (tb : Own.Tb Z a0 tables_1) (d : Addr) (c : Addr) (p : Addr) (nP : Addr) (nC : Addr) (eL : Addr) (mr : Addr) (k : ClassId) (m : Int32) (h : Heap) (cs : List (Addr × Own.Pc)) (H : Own.HS Z h ((d, .inr ((.object "java/lang/Object"), k, [(.ref c)])) :: (c, o_Sync (.ref nP) (.ref nC) (.ref eL) (.int m) (.int (0 : Int32)) (.ref p) (.int (0 : Int32)) (.int (0 : Int32)) .null (.int (0 : Int32)) (.int (0 : Int32)) (.int (0 : Int32)) (.int (0 : Int32))) :: cs)) (M : Own.Mr Z "[Ljava/lang/Object;" mr) (KN : Z.vm.findClass "[Ljava/lang/Object;" = some k) :
    Own.Con l Z (⟨"java/util/Arrays", "copyOf", "([Ljava/lang/Object;I)[Ljava/lang/Object;"⟩ : MethodName) jdk_65_method_119_code 2 (some (.array (.object "java/lang/Object"))) ({ frames := 2, cells := 1, slots := 2, locals := 64 } : Room) #[(.ref d), (.int (2 : Int32))] h (fun rr h' => ∃ (b : Addr) (k2 : ClassId), rr = some (.ref b) ∧ Own.HS Z h' ((b, .inr ((.object "java/lang/Object"), k2, [(.ref c), .null])) :: (d, .inr ((.object "java/lang/Object"), k, [(.ref c)])) :: (c, o_Sync (.ref nP) (.ref nC) (.ref eL) (.int m) (.int (0 : Int32)) (.ref p) (.int (0 : Int32)) (.int (0 : Int32)) .null (.int (0 : Int32)) (.int (0 : Int32)) (.int (0 : Int32)) (.int (0 : Int32))) :: cs) ∧ Ovr Z k2 "java/lang/Object") := by
  refine Own.Con.of (plainFor_of_name (by first | (simp [plainName, overriddenIn]; done) | decide +kernel)) #[.val (.ref d), .val (.int (2 : Int32))] (fun m => by first | rfl | (simp [entryFrame, mkF, argsToLocals, Value.category, maxLocals]; done)) (fun K ok => ?_)
  refine Own.W.aloadN ok d_jdk_65_method_119_0 1 rfl rfl ?_
  refine Own.W.iloadN ok d_jdk_65_method_119_1 2 rfl ?_
  refine Own.W.aloadN ok d_jdk_65_method_119_2 3 rfl rfl ?_
  refine Own.W.gcls ok tb 121 122 124 123 125 rfl rfl rfl rfl rfl (H.exaA (i := 0) rfl KN) M d_jdk_65_method_119_3 2 6 ?_
  have H1 : Own.HS Z h ((c, o_Sync (.ref nP) (.ref nC) (.ref eL) (.int m) (.int (0 : Int32)) (.ref p) (.int (0 : Int32)) (.int (0 : Int32)) .null (.int (0 : Int32)) (.int (0 : Int32)) (.int (0 : Int32)) (.int (0 : Int32))) :: (d, .inr ((.object "java/lang/Object"), k, [(.ref c)])) :: cs) := H.pull 1 _ rfl rfl
  have H2 : Own.HS Z h ((d, .inr ((.object "java/lang/Object"), k, [(.ref c)])) :: (c, o_Sync (.ref nP) (.ref nC) (.ref eL) (.int m) (.int (0 : Int32)) (.ref p) (.int (0 : Int32)) (.int (0 : Int32)) .null (.int (0 : Int32)) (.int (0 : Int32)) (.int (0 : Int32)) (.int (0 : Int32))) :: cs) := H1.pull 1 _ rfl rfl
  refine Own.W.callS ok tb (argsL := [(.ref d), (.int (2 : Int32)), (.ref mr)]) (rest := []) 127 128 119 129 rfl rfl rfl rfl d_jdk_65_method_119_6 pd_3 (c_cp3 l tb d c p nP nC eL mr k m h (cs) H2 M) 0 1 2 9 ?_
  rintro _ h3 ⟨b5, k6, rfl, H4, hq7⟩
  show Own.W l Z _ K _ h3 1 2 9 #[.val (.ref d), .val (.int (2 : Int32))] [(.ref b5)]
  exact Own.W.aret ok d_jdk_65_method_119_9 ⟨b5, k6, rfl, H4, hq7⟩
set_option maxRecDepth 65536 in
set_option maxHeartbeats 4000000 in
theorem c_gr2 (l : Launch) {Z : State} {a0 : Array Value} (tb : Own.Tb Z a0 tables_1) (b : Addr) (d : Addr) (c : Addr) (p : Addr) (nP : Addr) (nC : Addr) (eL : Addr) (mr : Addr) (k : ClassId) (m : Int32) (h : Heap) (cs : List (Addr × Own.Pc)) (H : Own.HS Z h ((b, o_AL (.int (2 : Int32)) (.ref d) (.int (1 : Int32))) :: (d, .inr ((.object "java/lang/Object"), k, [(.ref c)])) :: (c, o_Sync (.ref nP) (.ref nC) (.ref eL) (.int m) (.int (0 : Int32)) (.ref p) (.int (0 : Int32)) (.int (0 : Int32)) .null (.int (0 : Int32)) (.int (0 : Int32)) (.int (0 : Int32)) (.int (0 : Int32))) :: cs)) (M : Own.Mr Z "[Ljava/lang/Object;" mr) (KN : Z.vm.findClass "[Ljava/lang/Object;" = some k) :
    Own.Con l Z (⟨"java/util/ArrayList", "grow", "(I)[Ljava/lang/Object;"⟩ : MethodName) jdk_38_method_6_code 4 (some (.array (.object "java/lang/Object"))) ({ frames := 3, cells := 1, slots := 2, locals := 96 } : Room) #[(.ref b), (.int (2 : Int32))] h (fun rr h' => ∃ (g : Addr) (k2 : ClassId), rr = some (.ref g) ∧ Own.HS Z h' ((b, o_AL (.int (2 : Int32)) (.ref g) (.int (1 : Int32))) :: (g, .inr ((.object "java/lang/Object"), k2, [(.ref c), .null])) :: (d, .inr ((.object "java/lang/Object"), k, [(.ref c)])) :: (c, o_Sync (.ref nP) (.ref nC) (.ref eL) (.int m) (.int (0 : Int32)) (.ref p) (.int (0 : Int32)) (.int (0 : Int32)) .null (.int (0 : Int32)) (.int (0 : Int32)) (.int (0 : Int32)) (.int (0 : Int32))) :: cs) ∧ Ovr Z k2 "java/lang/Object") := by
  refine Own.Con.of (plainFor_of_name (by first | (simp [plainName, overriddenIn]; done) | decide +kernel)) #[.val (.ref b), .val (.int (2 : Int32)), .unset, .unset] (fun m => by first | rfl | (simp [entryFrame, mkF, argsToLocals, Value.category, maxLocals]; done)) (fun K ok => ?_)
  refine Own.W.aloadN ok d_jdk_38_method_6_0 1 rfl rfl ?_
  refine Own.W.getF ok tb 72 rfl Via.refl (H.fld (i := 0) (j := 1) rfl rfl) d_jdk_38_method_6_1 4 ?_
  refine Own.W.alen ok H (i := 1) rfl d_jdk_38_method_6_4 5 (1 : Int32) rfl ?_
  refine Own.W.istoreN ok d_jdk_38_method_6_5 6 #[.val (.ref b), .val (.int (2 : Int32)), .val (.int (1 : Int32)), .unset] rfl ?_
  refine Own.W.iloadN ok d_jdk_38_method_6_6 7 rfl ?_
  refine Own.W.ifT ok d_jdk_38_method_6_7 20 (by decide : (0 : Int32) < (1 : Int32)) ?_
  refine Own.W.iloadN ok d_jdk_38_method_6_20 21 rfl ?_
  refine Own.W.iloadN ok d_jdk_38_method_6_21 22 rfl ?_
  refine Own.W.iloadN ok d_jdk_38_method_6_22 23 rfl ?_
  refine Own.W.isubV ok d_jdk_38_method_6_23 24 (1 : Int32) (by decide) ?_
  refine Own.W.iloadN ok d_jdk_38_method_6_24 25 rfl ?_
  refine Own.W.iconst ok d_jdk_38_method_6_25 26 (1 : Int32) rfl ?_
  refine Own.W.ishrV ok d_jdk_38_method_6_26 27 (0 : Int32) (by decide) ?_
  refine Own.W.callS ok tb (argsL := [(.int (1 : Int32)), (.int (1 : Int32)), (.int (0 : Int32))]) (rest := []) 108 109 110 111 rfl rfl rfl rfl d_jdk_38_method_6_27 pd_4 (c_nl l tb  h) 0 0 0 30 ?_
  rintro _ _ ⟨rfl, rfl⟩
  show Own.W l Z _ K _ h 0 0 30 #[.val (.ref b), .val (.int (2 : Int32)), .val (.int (1 : Int32)), .unset] [(.int (2 : Int32))]
  refine Own.W.istoreN ok d_jdk_38_method_6_30 31 #[.val (.ref b), .val (.int (2 : Int32)), .val (.int (1 : Int32)), .val (.int (2 : Int32))] rfl ?_
  refine Own.W.aloadN ok d_jdk_38_method_6_31 32 rfl rfl ?_
  refine Own.W.aloadN ok d_jdk_38_method_6_32 33 rfl rfl ?_
  refine Own.W.getF ok tb 72 rfl Via.refl (H.fld (i := 0) (j := 1) rfl rfl) d_jdk_38_method_6_33 36 ?_
  refine Own.W.iloadN ok d_jdk_38_method_6_36 37 rfl ?_
  have H1 : Own.HS Z h ((c, o_Sync (.ref nP) (.ref nC) (.ref eL) (.int m) (.int (0 : Int32)) (.ref p) (.int (0 : Int32)) (.int (0 : Int32)) .null (.int (0 : Int32)) (.int (0 : Int32)) (.int (0 : Int32)) (.int (0 : Int32))) :: (b, o_AL (.int (2 : Int32)) (.ref d) (.int (1 : Int32))) :: (d, .inr ((.object "java/lang/Object"), k, [(.ref c)])) :: cs) := H.pull 2 _ rfl rfl
  have H2 : Own.HS Z h ((d, .inr ((.object "java/lang/Object"), k, [(.ref c)])) :: (c, o_Sync (.ref nP) (.ref nC) (.ref eL) (.int m) (.int (0 : Int32)) (.ref p) (.int (0 : Int32)) (.int (0 : Int32)) .null (.int (0 : Int32)) (.int (0 : Int32)) (.int (0 : Int32)) (.int (0 : Int32))) :: (b, o_AL (.int (2 : Int32)) (.ref d) (.int (1 : Int32))) :: cs) := H1.pull 2 _ rfl rfl
  refine Own.W.callS ok tb (argsL := [(.ref d), (.int (2 : Int32))]) (rest := [(.ref b)]) 117 118 119 120 rfl rfl rfl rfl d_jdk_38_method_6_37 pd_5 (c_cp2 l tb d c p nP nC eL mr k m h ((b, o_AL (.int (2 : Int32)) (.ref d) (.int (1 : Int32))) :: cs) H2 M KN) 1 1 2 40 ?_
  rintro _ h3 ⟨b5, k6, rfl, H4, hq7⟩
  show Own.W l Z _ K _ h3 1 2 40 #[.val (.ref b), .val (.int (2 : Int32)), .val (.int (1 : Int32)), .val (.int (2 : Int32))] [(.ref b5), (.ref b)]
  refine Own.W.dupX1 ok d_jdk_38_method_6_40 41 rfl rfl ?_
  refine Own.W.putF ok tb H4 (i := 3) (j := 1) (ty := (.array (.object "java/lang/Object"))) (w' := (.ref b5)) rfl rfl 72 50 rfl rfl Via.refl (Or.inl (tb _ (List.mem_of_getElem? (i := 73) rfl))) (Own.Lay.of (nw_AL tb) rfl) (by decide) rfl rfl d_jdk_38_method_6_41 44 ((b5, .inr ((.object "java/lang/Object"), k6, [(.ref c), .null])) :: (d, .inr ((.object "java/lang/Object"), k, [(.ref c)])) :: (c, o_Sync (.ref nP) (.ref nC) (.ref eL) (.int m) (.int (0 : Int32)) (.ref p) (.int (0 : Int32)) (.int (0 : Int32)) .null (.int (0 : Int32)) (.int (0 : Int32)) (.int (0 : Int32)) (.int (0 : Int32))) :: (b, o_AL (.int (2 : Int32)) (.ref b5) (.int (1 : Int32))) :: cs) rfl (fun h8 H9 => ?_)
  exact Own.W.aret ok d_jdk_38_method_6_44 ⟨b5, k6, rfl, ((((H9.pull 2 ((c, o_Sync (.ref nP) (.ref nC) (.ref eL) (.int m) (.int (0 : Int32)) (.ref p) (.int (0 : Int32)) (.int (0 : Int32)) .null (.int (0 : Int32)) (.int (0 : Int32)) (.int (0 : Int32)) (.int (0 : Int32))) :: (b5, .inr ((.object "java/lang/Object"), k6, [(.ref c), .null])) :: (d, .inr ((.object "java/lang/Object"), k, [(.ref c)])) :: (b, o_AL (.int (2 : Int32)) (.ref b5) (.int (1 : Int32))) :: cs) rfl rfl).pull 2 ((d, .inr ((.object "java/lang/Object"), k, [(.ref c)])) :: (c, o_Sync (.ref nP) (.ref nC) (.ref eL) (.int m) (.int (0 : Int32)) (.ref p) (.int (0 : Int32)) (.int (0 : Int32)) .null (.int (0 : Int32)) (.int (0 : Int32)) (.int (0 : Int32)) (.int (0 : Int32))) :: (b5, .inr ((.object "java/lang/Object"), k6, [(.ref c), .null])) :: (b, o_AL (.int (2 : Int32)) (.ref b5) (.int (1 : Int32))) :: cs) rfl rfl).pull 2 ((b5, .inr ((.object "java/lang/Object"), k6, [(.ref c), .null])) :: (d, .inr ((.object "java/lang/Object"), k, [(.ref c)])) :: (c, o_Sync (.ref nP) (.ref nC) (.ref eL) (.int m) (.int (0 : Int32)) (.ref p) (.int (0 : Int32)) (.int (0 : Int32)) .null (.int (0 : Int32)) (.int (0 : Int32)) (.int (0 : Int32)) (.int (0 : Int32))) :: (b, o_AL (.int (2 : Int32)) (.ref b5) (.int (1 : Int32))) :: cs) rfl rfl).pull 3 ((b, o_AL (.int (2 : Int32)) (.ref b5) (.int (1 : Int32))) :: (b5, .inr ((.object "java/lang/Object"), k6, [(.ref c), .null])) :: (d, .inr ((.object "java/lang/Object"), k, [(.ref c)])) :: (c, o_Sync (.ref nP) (.ref nC) (.ref eL) (.int m) (.int (0 : Int32)) (.ref p) (.int (0 : Int32)) (.int (0 : Int32)) .null (.int (0 : Int32)) (.int (0 : Int32)) (.int (0 : Int32)) (.int (0 : Int32))) :: cs) rfl rfl), hq7⟩
set_option maxRecDepth 65536 in
set_option maxHeartbeats 4000000 in
theorem c_gr1 (l : Launch) {Z : State} {a0 : Array Value} (tb : Own.Tb Z a0 tables_1) (b : Addr) (d : Addr) (c : Addr) (p : Addr) (nP : Addr) (nC : Addr) (eL : Addr) (mr : Addr) (k : ClassId) (m : Int32) (h : Heap) (cs : List (Addr × Own.Pc)) (H : Own.HS Z h ((b, o_AL (.int (2 : Int32)) (.ref d) (.int (1 : Int32))) :: (d, .inr ((.object "java/lang/Object"), k, [(.ref c)])) :: (c, o_Sync (.ref nP) (.ref nC) (.ref eL) (.int m) (.int (0 : Int32)) (.ref p) (.int (0 : Int32)) (.int (0 : Int32)) .null (.int (0 : Int32)) (.int (0 : Int32)) (.int (0 : Int32)) (.int (0 : Int32))) :: cs)) (M : Own.Mr Z "[Ljava/lang/Object;" mr) (KN : Z.vm.findClass "[Ljava/lang/Object;" = some k) :
    Own.Con l Z (⟨"java/util/ArrayList", "grow", "()[Ljava/lang/Object;"⟩ : MethodName) jdk_38_method_7_code 1 (some (.array (.object "java/lang/Object"))) ({ frames := 4, cells := 1, slots := 2, locals := 120 } : Room) #[(.ref b)] h (fun rr h' => ∃ (g : Addr) (k2 : ClassId), rr = some (.ref g) ∧ Own.HS Z h' ((b, o_AL (.int (2 : Int32)) (.ref g) (.int (1 : Int32))) :: (g, .inr ((.object "java/lang/Object"), k2, [(.ref c), .null])) :: (d, .inr ((.object "java/lang/Object"), k, [(.ref c)])) :: (c, o_Sync (.ref nP) (.ref nC) (.ref eL) (.int m) (.int (0 : Int32)) (.ref p) (.int (0 : Int32)) (.int (0 : Int32)) .null (.int (0 : Int32)) (.int (0 : Int32)) (.int (0 : Int32)) (.int (0 : Int32))) :: cs) ∧ Ovr Z k2 "java/lang/Object") := by
  refine Own.Con.of (plainFor_of_name (by first | (simp [plainName, overriddenIn]; done) | decide +kernel)) #[.val (.ref b)] (fun m => by first | rfl | (simp [entryFrame, mkF, argsToLocals, Value.category, maxLocals]; done)) (fun K ok => ?_)
  refine Own.W.aloadN ok d_jdk_38_method_7_0 1 rfl rfl ?_
  refine Own.W.aloadN ok d_jdk_38_method_7_1 2 rfl rfl ?_
  refine Own.W.getF ok tb 85 rfl Via.refl (H.fld (i := 0) (j := 2) rfl rfl) d_jdk_38_method_7_2 5 ?_
  refine Own.W.iconst ok d_jdk_38_method_7_5 6 (1 : Int32) rfl ?_
  refine Own.W.iaddV ok d_jdk_38_method_7_6 7 (2 : Int32) (by decide) ?_
  have H1 : Own.HS Z h ((c, o_Sync (.ref nP) (.ref nC) (.ref eL) (.int m) (.int (0 : Int32)) (.ref p) (.int (0 : Int32)) (.int (0 : Int32)) .null (.int (0 : Int32)) (.int (0 : Int32)) (.int (0 : Int32)) (.int (0 : Int32))) :: (b, o_AL (.int (2 : Int32)) (.ref d) (.int (1 : Int32))) :: (d, .inr ((.object "java/lang/Object"), k, [(.ref c)])) :: cs) := H.pull 2 _ rfl rfl
  have H2 : Own.HS Z h ((d, .inr ((.object "java/lang/Object"), k, [(.ref c)])) :: (c, o_Sync (.ref nP) (.ref nC) (.ref eL) (.int m) (.int (0 : Int32)) (.ref p) (.int (0 : Int32)) (.int (0 : Int32)) .null (.int (0 : Int32)) (.int (0 : Int32)) (.int (0 : Int32)) (.int (0 : Int32))) :: (b, o_AL (.int (2 : Int32)) (.ref d) (.int (1 : Int32))) :: cs) := H1.pull 2 _ rfl rfl
  have H3 : Own.HS Z h ((b, o_AL (.int (2 : Int32)) (.ref d) (.int (1 : Int32))) :: (d, .inr ((.object "java/lang/Object"), k, [(.ref c)])) :: (c, o_Sync (.ref nP) (.ref nC) (.ref eL) (.int m) (.int (0 : Int32)) (.ref p) (.int (0 : Int32)) (.int (0 : Int32)) .null (.int (0 : Int32)) (.int (0 : Int32)) (.int (0 : Int32)) (.int (0 : Int32))) :: cs) := H2.pull 2 _ rfl rfl
  refine Own.W.callP ok tb (a := b) (argsL := [(.int (2 : Int32))]) (rest := []) 103 104 106 105 107 51 rfl rfl rfl rfl rfl rfl (H3.exa (i := 0) rfl) d_jdk_38_method_7_7 pd_6 (c_gr2 l tb b d c p nP nC eL mr k m h (cs) H3 M KN) 0 1 2 10 ?_
  rintro _ h4 ⟨g6, k7, rfl, H5, hq8⟩
  show Own.W l Z _ K _ h4 1 2 10 #[.val (.ref b)] [(.ref g6)]
  exact Own.W.aret ok d_jdk_38_method_7_10 ⟨g6, k7, rfl, H5, hq8⟩
set_option maxRecDepth 65536 in
set_option maxHeartbeats 4000000 in
theorem c_ad1 (l : Launch) {Z : State} {a0 : Array Value} (tb : Own.Tb Z a0 tables_1) (b : Addr) (d : Addr) (c : Addr) (p : Addr) (nP : Addr) (nC : Addr) (eL : Addr) (k : ClassId) (m : Int32) (h : Heap) (cs : List (Addr × Own.Pc)) (H : Own.HS Z h ((b, o_AL (.int (1 : Int32)) (.ref d) (.int (0 : Int32))) :: (d, .inr ((.object "java/lang/Object"), k, [.null])) :: (c, o_Sync (.ref nP) (.ref nC) (.ref eL) (.int m) (.int (0 : Int32)) (.ref p) (.int (0 : Int32)) (.int (0 : Int32)) .null (.int (0 : Int32)) (.int (0 : Int32)) (.int (0 : Int32)) (.int (0 : Int32))) :: cs)) (O : Ovr Z k "java/lang/Object") :
    Own.Con l Z (⟨"java/util/ArrayList", "add", "(Ljava/lang/Object;[Ljava/lang/Object;I)V"⟩ : MethodName) jdk_38_method_24_code 4 none ({ frames := 0, cells := 0, slots := 0, locals := 0 } : Room) #[(.ref b), (.ref c), (.ref d), (.int (0 : Int32))] h (fun rr h' => rr = none ∧ Own.HS Z h' ((b, o_AL (.int (1 : Int32)) (.ref d) (.int (1 : Int32))) :: (d, .inr ((.object "java/lang/Object"), k, [(.ref c)])) :: (c, o_Sync (.ref nP) (.ref nC) (.ref eL) (.int m) (.int (0 : Int32)) (.ref p) (.int (0 : Int32)) (.int (0 : Int32)) .null (.int (0 : Int32)) (.int (0 : Int32)) (.int (0 : Int32)) (.int (0 : Int32))) :: cs)) := by
  refine Own.Con.of (plainFor_of_name (by first | (simp [plainName, overriddenIn]; done) | decide +kernel)) #[.val (.ref b), .val (.ref c), .val (.ref d), .val (.int (0 : Int32))] (fun m => by first | rfl | (simp [entryFrame, mkF, argsToLocals, Value.category, maxLocals]; done)) (fun K ok => ?_)
  refine Own.W.iloadN ok d_jdk_38_method_24_0 1 rfl ?_
  refine Own.W.aloadN ok d_jdk_38_method_24_1 2 rfl rfl ?_
  refine Own.W.alen ok H (i := 1) rfl d_jdk_38_method_24_2 3 (1 : Int32) rfl ?_
  refine Own.W.icmpT ok d_jdk_38_method_24_3 11 (by decide : ¬ ((0 : Int32) = (1 : Int32))) ?_
  refine Own.W.aloadN ok d_jdk_38_method_24_11 12 rfl rfl ?_
  refine Own.W.iloadN ok d_jdk_38_method_24_12 13 rfl ?_
  refine Own.W.aloadN ok d_jdk_38_method_24_13 14 rfl rfl ?_
  refine Own.W.aast ok H (i := 1) rfl (by decide) (Nat.le_of_ble_eq_true rfl) (H.sto (i := 1) rfl O (Ins.of_exa (H.exa (i := 2) rfl) (tb _ (List.mem_of_getElem? (i := 92) rfl)))) d_jdk_38_method_24_14 15 ((b, o_AL (.int (1 : Int32)) (.ref d) (.int (0 : Int32))) :: (d, .inr ((.object "java/lang/Object"), k, [(.ref c)])) :: (c, o_Sync (.ref nP) (.ref nC) (.ref eL) (.int m) (.int (0 : Int32)) (.ref p) (.int (0 : Int32)) (.int (0 : Int32)) .null (.int (0 : Int32)) (.int (0 : Int32)) (.int (0 : Int32)) (.int (0 : Int32))) :: cs) rfl (fun h1 H2 => ?_)
  refine Own.W.aloadN ok d_jdk_38_method_24_15 16 rfl rfl ?_
  refine Own.W.iloadN ok d_jdk_38_method_24_16 17 rfl ?_
  refine Own.W.iconst ok d_jdk_38_method_24_17 18 (1 : Int32) rfl ?_
  refine Own.W.iaddV ok d_jdk_38_method_24_18 19 (1 : Int32) (by decide) ?_
  refine Own.W.putF ok tb H2 (i := 0) (j := 2) (ty := .int) (w' := (.int (1 : Int32))) rfl rfl 85 50 rfl rfl Via.refl (Or.inl (tb _ (List.mem_of_getElem? (i := 86) rfl))) (Own.Lay.of (nw_AL tb) rfl) (by decide) rfl rfl d_jdk_38_method_24_19 22 ((b, o_AL (.int (1 : Int32)) (.ref d) (.int (1 : Int32))) :: (d, .inr ((.object "java/lang/Object"), k, [(.ref c)])) :: (c, o_Sync (.ref nP) (.ref nC) (.ref eL) (.int m) (.int (0 : Int32)) (.ref p) (.int (0 : Int32)) (.int (0 : Int32)) .null (.int (0 : Int32)) (.int (0 : Int32)) (.int (0 : Int32)) (.int (0 : Int32))) :: cs) rfl (fun h3 H4 => ?_)
  exact Own.W.vret ok d_jdk_38_method_24_22 ⟨rfl, H4⟩
set_option maxRecDepth 65536 in
set_option maxHeartbeats 4000000 in
theorem c_add1 (l : Launch) {Z : State} {a0 : Array Value} (tb : Own.Tb Z a0 tables_1) (b : Addr) (d : Addr) (c : Addr) (p : Addr) (nP : Addr) (nC : Addr) (eL : Addr) (k : ClassId) (m : Int32) (h : Heap) (cs : List (Addr × Own.Pc)) (H : Own.HS Z h ((b, o_AL (.int (0 : Int32)) (.ref d) (.int (0 : Int32))) :: (d, .inr ((.object "java/lang/Object"), k, [.null])) :: (c, o_Sync (.ref nP) (.ref nC) (.ref eL) (.int m) (.int (0 : Int32)) (.ref p) (.int (0 : Int32)) (.int (0 : Int32)) .null (.int (0 : Int32)) (.int (0 : Int32)) (.int (0 : Int32)) (.int (0 : Int32))) :: cs)) (O : Ovr Z k "java/lang/Object") :
    Own.Con l Z (⟨"java/util/ArrayList", "add", "(Ljava/lang/Object;)Z"⟩ : MethodName) jdk_38_method_25_code 2 (some .boolean) ({ frames := 1, cells := 0, slots := 0, locals := 20 } : Room) #[(.ref b), (.ref c)] h (fun rr h' => rr = some (.int (1 : Int32)) ∧ Own.HS Z h' ((b, o_AL (.int (1 : Int32)) (.ref d) (.int (1 : Int32))) :: (d, .inr ((.object "java/lang/Object"), k, [(.ref c)])) :: (c, o_Sync (.ref nP) (.ref nC) (.ref eL) (.int m) (.int (0 : Int32)) (.ref p) (.int (0 : Int32)) (.int (0 : Int32)) .null (.int (0 : Int32)) (.int (0 : Int32)) (.int (0 : Int32)) (.int (0 : Int32))) :: cs)) := by
  refine Own.Con.of (plainFor_of_name (by first | (simp [plainName, overriddenIn]; done) | decide +kernel)) #[.val (.ref b), .val (.ref c)] (fun m => by first | rfl | (simp [entryFrame, mkF, argsToLocals, Value.category, maxLocals]; done)) (fun K ok => ?_)
  refine Own.W.aloadN ok d_jdk_38_method_25_0 1 rfl rfl ?_
  refine Own.W.dup ok d_jdk_38_method_25_1 2 rfl ?_
  refine Own.W.getF ok tb 83 rfl (Via.of (tb _ (List.mem_of_getElem? (i := 84) rfl))) (H.fld (i := 0) (j := 0) rfl rfl) d_jdk_38_method_25_2 5 ?_
  refine Own.W.iconst ok d_jdk_38_method_25_5 6 (1 : Int32) rfl ?_
  refine Own.W.iaddV ok d_jdk_38_method_25_6 7 (1 : Int32) (by decide) ?_
  refine Own.W.putF ok tb H (i := 0) (j := 0) (ty := .int) (w' := (.int (1 : Int32))) rfl rfl 83 50 rfl rfl (Via.of (tb _ (List.mem_of_getElem? (i := 84) rfl))) (Or.inl (tb _ (List.mem_of_getElem? (i := 69) rfl))) (Own.Lay.of (nw_AL tb) rfl) (by decide) rfl rfl d_jdk_38_method_25_7 10 ((b, o_AL (.int (1 : Int32)) (.ref d) (.int (0 : Int32))) :: (d, .inr ((.object "java/lang/Object"), k, [.null])) :: (c, o_Sync (.ref nP) (.ref nC) (.ref eL) (.int m) (.int (0 : Int32)) (.ref p) (.int (0 : Int32)) (.int (0 : Int32)) .null (.int (0 : Int32)) (.int (0 : Int32)) (.int (0 : Int32)) (.int (0 : Int32))) :: cs) rfl (fun h1 H2 => ?_)
  refine Own.W.aloadN ok d_jdk_38_method_25_10 11 rfl rfl ?_
  refine Own.W.aloadN ok d_jdk_38_method_25_11 12 rfl rfl ?_
  refine Own.W.aloadN ok d_jdk_38_method_25_12 13 rfl rfl ?_
  refine Own.W.getF ok tb 72 rfl Via.refl (H2.fld (i := 0) (j := 1) rfl rfl) d_jdk_38_method_25_13 16 ?_
  refine Own.W.aloadN ok d_jdk_38_method_25_16 17 rfl rfl ?_
  refine Own.W.getF ok tb 85 rfl Via.refl (H2.fld (i := 0) (j := 2) rfl rfl) d_jdk_38_method_25_17 20 ?_
  have H3 : Own.HS Z h1 ((c, o_Sync (.ref nP) (.ref nC) (.ref eL) (.int m) (.int (0 : Int32)) (.ref p) (.int (0 : Int32)) (.int (0 : Int32)) .null (.int (0 : Int32)) (.int (0 : Int32)) (.int (0 : Int32)) (.int (0 : Int32))) :: (b, o_AL (.int (1 : Int32)) (.ref d) (.int (0 : Int32))) :: (d, .inr ((.object "java/lang/Object"), k, [.null])) :: cs) := H2.pull 2 _ rfl rfl
  have H4 : Own.HS Z h1 ((d, .inr ((.object "java/lang/Object"), k, [.null])) :: (c, o_Sync (.ref nP) (.ref nC) (.ref eL) (.int m) (.int (0 : Int32)) (.ref p) (.int (0 : Int32)) (.int (0 : Int32)) .null (.int (0 : Int32)) (.int (0 : Int32)) (.int (0 : Int32)) (.int (0 : Int32))) :: (b, o_AL (.int (1 : Int32)) (.ref d) (.int (0 : Int32))) :: cs) := H3.pull 2 _ rfl rfl
  have H5 : Own.HS Z h1 ((b, o_AL (.int (1 : Int32)) (.ref d) (.int (0 : Int32))) :: (d, .inr ((.object "java/lang/Object"), k, [.null])) :: (c, o_Sync (.ref nP) (.ref nC) (.ref eL) (.int m) (.int (0 : Int32)) (.ref p) (.int (0 : Int32)) (.int (0 : Int32)) .null (.int (0 : Int32)) (.int (0 : Int32)) (.int (0 : Int32)) (.int (0 : Int32))) :: cs) := H4.pull 2 _ rfl rfl
  refine Own.W.callP ok tb (a := b) (argsL := [(.ref c), (.ref d), (.int (0 : Int32))]) (rest := []) 87 88 90 89 91 51 rfl rfl rfl rfl rfl rfl (H5.exa (i := 0) rfl) d_jdk_38_method_25_20 pd_7 (c_ad1 l tb b d c p nP nC eL k m h1 (cs) H5 O) 0 0 0 23 ?_
  rintro _ h6 ⟨rfl, H7⟩
  show Own.W l Z _ K _ h6 0 0 23 #[.val (.ref b), .val (.ref c)] []
  refine Own.W.iconst ok d_jdk_38_method_25_23 24 (1 : Int32) rfl ?_
  exact Own.W.iret ok d_jdk_38_method_25_24 rfl ⟨rfl, H7⟩
set_option maxRecDepth 65536 in
set_option maxHeartbeats 4000000 in
theorem c_ad2 (l : Launch) {Z : State} {a0 : Array Value} (tb : Own.Tb Z a0 tables_1) (b : Addr) (d : Addr) (c : Addr) (p : Addr) (nP : Addr) (nC : Addr) (eL : Addr) (mr : Addr) (k : ClassId) (m : Int32) (e : Addr) (m2 : Int32) (h : Heap) (cs : List (Addr × Own.Pc)) (H : Own.HS Z h ((b, o_AL (.int (2 : Int32)) (.ref d) (.int (1 : Int32))) :: (d, .inr ((.object "java/lang/Object"), k, [(.ref c)])) :: (c, o_Sync (.ref nP) (.ref nC) (.ref eL) (.int m) (.int (0 : Int32)) (.ref p) (.int (0 : Int32)) (.int (0 : Int32)) .null (.int (0 : Int32)) (.int (0 : Int32)) (.int (0 : Int32)) (.int (0 : Int32))) :: (e, o_Sync (.ref nP) (.ref nC) (.ref eL) (.int m2) (.int (0 : Int32)) (.ref p) (.int (0 : Int32)) (.int (0 : Int32)) .null (.int (0 : Int32)) (.int (0 : Int32)) (.int (0 : Int32)) (.int (0 : Int32))) :: cs)) (M : Own.Mr Z "[Ljava/lang/Object;" mr) (KN : Z.vm.findClass "[Ljava/lang/Object;" = some k) :
    Own.Con l Z (⟨"java/util/ArrayList", "add", "(Ljava/lang/Object;[Ljava/lang/Object;I)V"⟩ : MethodName) jdk_38_method_24_code 4 none ({ frames := 5, cells := 1, slots := 2, locals := 136 } : Room) #[(.ref b), (.ref e), (.ref d), (.int (1 : Int32))] h (fun rr h' => ∃ (g : Addr) (k2 : ClassId), rr = none ∧ Own.HS Z h' ((b, o_AL (.int (2 : Int32)) (.ref g) (.int (2 : Int32))) :: (g, .inr ((.object "java/lang/Object"), k2, [(.ref c), (.ref e)])) :: (d, .inr ((.object "java/lang/Object"), k, [(.ref c)])) :: (c, o_Sync (.ref nP) (.ref nC) (.ref eL) (.int m) (.int (0 : Int32)) (.ref p) (.int (0 : Int32)) (.int (0 : Int32)) .null (.int (0 : Int32)) (.int (0 : Int32)) (.int (0 : Int32)) (.int (0 : Int32))) :: (e, o_Sync (.ref nP) (.ref nC) (.ref eL) (.int m2) (.int (0 : Int32)) (.ref p) (.int (0 : Int32)) (.int (0 : Int32)) .null (.int (0 : Int32)) (.int (0 : Int32)) (.int (0 : Int32)) (.int (0 : Int32))) :: cs)) := by
  refine Own.Con.of (plainFor_of_name (by first | (simp [plainName, overriddenIn]; done) | decide +kernel)) #[.val (.ref b), .val (.ref e), .val (.ref d), .val (.int (1 : Int32))] (fun m => by first | rfl | (simp [entryFrame, mkF, argsToLocals, Value.category, maxLocals]; done)) (fun K ok => ?_)
  refine Own.W.iloadN ok d_jdk_38_method_24_0 1 rfl ?_
  refine Own.W.aloadN ok d_jdk_38_method_24_1 2 rfl rfl ?_
  refine Own.W.alen ok H (i := 1) rfl d_jdk_38_method_24_2 3 (1 : Int32) rfl ?_
  refine Own.W.icmpF ok d_jdk_38_method_24_3 6 (by decide : (1 : Int32) = (1 : Int32)) ?_
  refine Own.W.aloadN ok d_jdk_38_method_24_6 7 rfl rfl ?_
  have H1 : Own.HS Z h ((c, o_Sync (.ref nP) (.ref nC) (.ref eL) (.int m) (.int (0 : Int32)) (.ref p) (.int (0 : Int32)) (.int (0 : Int32)) .null (.int (0 : Int32)) (.int (0 : Int32)) (.int (0 : Int32)) (.int (0 : Int32))) :: (b, o_AL (.int (2 : Int32)) (.ref d) (.int (1 : Int32))) :: (d, .inr ((.object "java/lang/Object"), k, [(.ref c)])) :: (e, o_Sync (.ref nP) (.ref nC) (.ref eL) (.int m2) (.int (0 : Int32)) (.ref p) (.int (0 : Int32)) (.int (0 : Int32)) .null (.int (0 : Int32)) (.int (0 : Int32)) (.int (0 : Int32)) (.int (0 : Int32))) :: cs) := H.pull 2 _ rfl rfl
  have H2 : Own.HS Z h ((d, .inr ((.object "java/lang/Object"), k, [(.ref c)])) :: (c, o_Sync (.ref nP) (.ref nC) (.ref eL) (.int m) (.int (0 : Int32)) (.ref p) (.int (0 : Int32)) (.int (0 : Int32)) .null (.int (0 : Int32)) (.int (0 : Int32)) (.int (0 : Int32)) (.int (0 : Int32))) :: (b, o_AL (.int (2 : Int32)) (.ref d) (.int (1 : Int32))) :: (e, o_Sync (.ref nP) (.ref nC) (.ref eL) (.int m2) (.int (0 : Int32)) (.ref p) (.int (0 : Int32)) (.int (0 : Int32)) .null (.int (0 : Int32)) (.int (0 : Int32)) (.int (0 : Int32)) (.int (0 : Int32))) :: cs) := H1.pull 2 _ rfl rfl
  have H3 : Own.HS Z h ((b, o_AL (.int (2 : Int32)) (.ref d) (.int (1 : Int32))) :: (d, .inr ((.object "java/lang/Object"), k, [(.ref c)])) :: (c, o_Sync (.ref nP) (.ref nC) (.ref eL) (.int m) (.int (0 : Int32)) (.ref p) (.int (0 : Int32)) (.int (0 : Int32)) .null (.int (0 : Int32)) (.int (0 : Int32)) (.int (0 : Int32)) (.int (0 : Int32))) :: (e, o_Sync (.ref nP) (.ref nC) (.ref eL) (.int m2) (.int (0 : Int32)) (.ref p) (.int (0 : Int32)) (.int (0 : Int32)) .null (.int (0 : Int32)) (.int (0 : Int32)) (.int (0 : Int32)) (.int (0 : Int32))) :: cs) := H2.pull 2 _ rfl rfl
  refine Own.W.callP ok tb (a := b) (argsL := []) (rest := []) 98 99 101 100 102 51 rfl rfl rfl rfl rfl rfl (H3.exa (i := 0) rfl) d_jdk_38_method_24_7 pd_8 (c_gr1 l tb b d c p nP nC eL mr k m h ((e, o_Sync (.ref nP) (.ref nC) (.ref eL) (.int m2) (.int (0 : Int32)) (.ref p) (.int (0 : Int32)) (.int (0 : Int32)) .null (.int (0 : Int32)) (.int (0 : Int32)) (.int (0 : Int32)) (.int (0 : Int32))) :: cs) H3 M KN) 0 1 2 10 ?_
  rintro _ h4 ⟨g6, k7, rfl, H5, hq8⟩
  show Own.W l Z _ K _ h4 1 2 10 #[.val (.ref b), .val (.ref e), .val (.ref d), .val (.int (1 : Int32))] [(.ref g6)]
  refine Own.W.astoreN ok d_jdk_38_method_24_10 11 #[.val (.ref b), .val (.ref e), .val (.ref g6), .val (.int (1 : Int32))] rfl rfl ?_
  refine Own.W.aloadN ok d_jdk_38_method_24_11 12 rfl rfl ?_
  refine Own.W.iloadN ok d_jdk_38_method_24_12 13 rfl ?_
  refine Own.W.aloadN ok d_jdk_38_method_24_13 14 rfl rfl ?_
  refine Own.W.aast ok H5 (i := 1) rfl (by decide) (Nat.le_of_ble_eq_true rfl) (H5.sto (i := 1) rfl hq8 (Ins.of_exa (H5.exa (i := 4) rfl) (tb _ (List.mem_of_getElem? (i := 92) rfl)))) d_jdk_38_method_24_14 15 ((b, o_AL (.int (2 : Int32)) (.ref g6) (.int (1 : Int32))) :: (g6, .inr ((.object "java/lang/Object"), k7, [(.ref c), (.ref e)])) :: (d, .inr ((.object "java/lang/Object"), k, [(.ref c)])) :: (c, o_Sync (.ref nP) (.ref nC) (.ref eL) (.int m) (.int (0 : Int32)) (.ref p) (.int (0 : Int32)) (.int (0 : Int32)) .null (.int (0 : Int32)) (.int (0 : Int32)) (.int (0 : Int32)) (.int (0 : Int32))) :: (e, o_Sync (.ref nP) (.ref nC) (.ref eL) (.int m2) (.int (0 : Int32)) (.ref p) (.int (0 : Int32)) (.int (0 : Int32)) .null (.int (0 : Int32)) (.int (0 : Int32)) (.int (0 : Int32)) (.int (0 : Int32))) :: cs) rfl (fun h9 H10 => ?_)
  refine Own.W.aloadN ok d_jdk_38_method_24_15 16 rfl rfl ?_
  refine Own.W.iloadN ok d_jdk_38_method_24_16 17 rfl ?_
  refine Own.W.iconst ok d_jdk_38_method_24_17 18 (1 : Int32) rfl ?_
  refine Own.W.iaddV ok d_jdk_38_method_24_18 19 (2 : Int32) (by decide) ?_
  refine Own.W.putF ok tb H10 (i := 0) (j := 2) (ty := .int) (w' := (.int (2 : Int32))) rfl rfl 85 50 rfl rfl Via.refl (Or.inl (tb _ (List.mem_of_getElem? (i := 86) rfl))) (Own.Lay.of (nw_AL tb) rfl) (by decide) rfl rfl d_jdk_38_method_24_19 22 ((b, o_AL (.int (2 : Int32)) (.ref g6) (.int (2 : Int32))) :: (g6, .inr ((.object "java/lang/Object"), k7, [(.ref c), (.ref e)])) :: (d, .inr ((.object "java/lang/Object"), k, [(.ref c)])) :: (c, o_Sync (.ref nP) (.ref nC) (.ref eL) (.int m) (.int (0 : Int32)) (.ref p) (.int (0 : Int32)) (.int (0 : Int32)) .null (.int (0 : Int32)) (.int (0 : Int32)) (.int (0 : Int32)) (.int (0 : Int32))) :: (e, o_Sync (.ref nP) (.ref nC) (.ref eL) (.int m2) (.int (0 : Int32)) (.ref p) (.int (0 : Int32)) (.int (0 : Int32)) .null (.int (0 : Int32)) (.int (0 : Int32)) (.int (0 : Int32)) (.int (0 : Int32))) :: cs) rfl (fun h11 H12 => ?_)
  exact Own.W.vret ok d_jdk_38_method_24_22 ⟨g6, k7, rfl, H12⟩
set_option maxRecDepth 65536 in
set_option maxHeartbeats 4000000 in
theorem c_add2 (l : Launch) {Z : State} {a0 : Array Value} (tb : Own.Tb Z a0 tables_1) (b : Addr) (d : Addr) (c : Addr) (p : Addr) (nP : Addr) (nC : Addr) (eL : Addr) (mr : Addr) (k : ClassId) (m : Int32) (e : Addr) (m2 : Int32) (h : Heap) (cs : List (Addr × Own.Pc)) (H : Own.HS Z h ((b, o_AL (.int (1 : Int32)) (.ref d) (.int (1 : Int32))) :: (d, .inr ((.object "java/lang/Object"), k, [(.ref c)])) :: (c, o_Sync (.ref nP) (.ref nC) (.ref eL) (.int m) (.int (0 : Int32)) (.ref p) (.int (0 : Int32)) (.int (0 : Int32)) .null (.int (0 : Int32)) (.int (0 : Int32)) (.int (0 : Int32)) (.int (0 : Int32))) :: (e, o_Sync (.ref nP) (.ref nC) (.ref eL) (.int m2) (.int (0 : Int32)) (.ref p) (.int (0 : Int32)) (.int (0 : Int32)) .null (.int (0 : Int32)) (.int (0 : Int32)) (.int (0 : Int32)) (.int (0 : Int32))) :: cs)) (M : Own.Mr Z "[Ljava/lang/Object;" mr) (KN : Z.vm.findClass "[Ljava/lang/Object;" = some k) :
    Own.Con l Z (⟨"java/util/ArrayList", "add", "(Ljava/lang/Object;)Z"⟩ : MethodName) jdk_38_method_25_code 2 (some .boolean) ({ frames := 6, cells := 1, slots := 2, locals := 152 } : Room) #[(.ref b), (.ref e)] h (fun rr h' => ∃ (g : Addr) (k2 : ClassId), rr = some (.int (1 : Int32)) ∧ Own.HS Z h' ((b, o_AL (.int (2 : Int32)) (.ref g) (.int (2 : Int32))) :: (g, .inr ((.object "java/lang/Object"), k2, [(.ref c), (.ref e)])) :: (d, .inr ((.object "java/lang/Object"), k, [(.ref c)])) :: (c, o_Sync (.ref nP) (.ref nC) (.ref eL) (.int m) (.int (0 : Int32)) (.ref p) (.int (0 : Int32)) (.int (0 : Int32)) .null (.int (0 : Int32)) (.int (0 : Int32)) (.int (0 : Int32)) (.int (0 : Int32))) :: (e, o_Sync (.ref nP) (.ref nC) (.ref eL) (.int m2) (.int (0 : Int32)) (.ref p) (.int (0 : Int32)) (.int (0 : Int32)) .null (.int (0 : Int32)) (.int (0 : Int32)) (.int (0 : Int32)) (.int (0 : Int32))) :: cs)) := by
  refine Own.Con.of (plainFor_of_name (by first | (simp [plainName, overriddenIn]; done) | decide +kernel)) #[.val (.ref b), .val (.ref e)] (fun m => by first | rfl | (simp [entryFrame, mkF, argsToLocals, Value.category, maxLocals]; done)) (fun K ok => ?_)
  refine Own.W.aloadN ok d_jdk_38_method_25_0 1 rfl rfl ?_
  refine Own.W.dup ok d_jdk_38_method_25_1 2 rfl ?_
  refine Own.W.getF ok tb 83 rfl (Via.of (tb _ (List.mem_of_getElem? (i := 84) rfl))) (H.fld (i := 0) (j := 0) rfl rfl) d_jdk_38_method_25_2 5 ?_
  refine Own.W.iconst ok d_jdk_38_method_25_5 6 (1 : Int32) rfl ?_
  refine Own.W.iaddV ok d_jdk_38_method_25_6 7 (2 : Int32) (by decide) ?_
  refine Own.W.putF ok tb H (i := 0) (j := 0) (ty := .int) (w' := (.int (2 : Int32))) rfl rfl 83 50 rfl rfl (Via.of (tb _ (List.mem_of_getElem? (i := 84) rfl))) (Or.inl (tb _ (List.mem_of_getElem? (i := 69) rfl))) (Own.Lay.of (nw_AL tb) rfl) (by decide) rfl rfl d_jdk_38_method_25_7 10 ((b, o_AL (.int (2 : Int32)) (.ref d) (.int (1 : Int32))) :: (d, .inr ((.object "java/lang/Object"), k, [(.ref c)])) :: (c, o_Sync (.ref nP) (.ref nC) (.ref eL) (.int m) (.int (0 : Int32)) (.ref p) (.int (0 : Int32)) (.int (0 : Int32)) .null (.int (0 : Int32)) (.int (0 : Int32)) (.int (0 : Int32)) (.int (0 : Int32))) :: (e, o_Sync (.ref nP) (.ref nC) (.ref eL) (.int m2) (.int (0 : Int32)) (.ref p) (.int (0 : Int32)) (.int (0 : Int32)) .null (.int (0 : Int32)) (.int (0 : Int32)) (.int (0 : Int32)) (.int (0 : Int32))) :: cs) rfl (fun h1 H2 => ?_)
  refine Own.W.aloadN ok d_jdk_38_method_25_10 11 rfl rfl ?_
  refine Own.W.aloadN ok d_jdk_38_method_25_11 12 rfl rfl ?_
  refine Own.W.aloadN ok d_jdk_38_method_25_12 13 rfl rfl ?_
  refine Own.W.getF ok tb 72 rfl Via.refl (H2.fld (i := 0) (j := 1) rfl rfl) d_jdk_38_method_25_13 16 ?_
  refine Own.W.aloadN ok d_jdk_38_method_25_16 17 rfl rfl ?_
  refine Own.W.getF ok tb 85 rfl Via.refl (H2.fld (i := 0) (j := 2) rfl rfl) d_jdk_38_method_25_17 20 ?_
  have H3 : Own.HS Z h1 ((e, o_Sync (.ref nP) (.ref nC) (.ref eL) (.int m2) (.int (0 : Int32)) (.ref p) (.int (0 : Int32)) (.int (0 : Int32)) .null (.int (0 : Int32)) (.int (0 : Int32)) (.int (0 : Int32)) (.int (0 : Int32))) :: (b, o_AL (.int (2 : Int32)) (.ref d) (.int (1 : Int32))) :: (d, .inr ((.object "java/lang/Object"), k, [(.ref c)])) :: (c, o_Sync (.ref nP) (.ref nC) (.ref eL) (.int m) (.int (0 : Int32)) (.ref p) (.int (0 : Int32)) (.int (0 : Int32)) .null (.int (0 : Int32)) (.int (0 : Int32)) (.int (0 : Int32)) (.int (0 : Int32))) :: cs) := H2.pull 3 _ rfl rfl
  have H4 : Own.HS Z h1 ((c, o_Sync (.ref nP) (.ref nC) (.ref eL) (.int m) (.int (0 : Int32)) (.ref p) (.int (0 : Int32)) (.int (0 : Int32)) .null (.int (0 : Int32)) (.int (0 : Int32)) (.int (0 : Int32)) (.int (0 : Int32))) :: (e, o_Sync (.ref nP) (.ref nC) (.ref eL) (.int m2) (.int (0 : Int32)) (.ref p) (.int (0 : Int32)) (.int (0 : Int32)) .null (.int (0 : Int32)) (.int (0 : Int32)) (.int (0 : Int32)) (.int (0 : Int32))) :: (b, o_AL (.int (2 : Int32)) (.ref d) (.int (1 : Int32))) :: (d, .inr ((.object "java/lang/Object"), k, [(.ref c)])) :: cs) := H3.pull 3 _ rfl rfl
  have H5 : Own.HS Z h1 ((d, .inr ((.object "java/lang/Object"), k, [(.ref c)])) :: (c, o_Sync (.ref nP) (.ref nC) (.ref eL) (.int m) (.int (0 : Int32)) (.ref p) (.int (0 : Int32)) (.int (0 : Int32)) .null (.int (0 : Int32)) (.int (0 : Int32)) (.int (0 : Int32)) (.int (0 : Int32))) :: (e, o_Sync (.ref nP) (.ref nC) (.ref eL) (.int m2) (.int (0 : Int32)) (.ref p) (.int (0 : Int32)) (.int (0 : Int32)) .null (.int (0 : Int32)) (.int (0 : Int32)) (.int (0 : Int32)) (.int (0 : Int32))) :: (b, o_AL (.int (2 : Int32)) (.ref d) (.int (1 : Int32))) :: cs) := H4.pull 3 _ rfl rfl
  have H6 : Own.HS Z h1 ((b, o_AL (.int (2 : Int32)) (.ref d) (.int (1 : Int32))) :: (d, .inr ((.object "java/lang/Object"), k, [(.ref c)])) :: (c, o_Sync (.ref nP) (.ref nC) (.ref eL) (.int m) (.int (0 : Int32)) (.ref p) (.int (0 : Int32)) (.int (0 : Int32)) .null (.int (0 : Int32)) (.int (0 : Int32)) (.int (0 : Int32)) (.int (0 : Int32))) :: (e, o_Sync (.ref nP) (.ref nC) (.ref eL) (.int m2) (.int (0 : Int32)) (.ref p) (.int (0 : Int32)) (.int (0 : Int32)) .null (.int (0 : Int32)) (.int (0 : Int32)) (.int (0 : Int32)) (.int (0 : Int32))) :: cs) := H5.pull 3 _ rfl rfl
  refine Own.W.callP ok tb (a := b) (argsL := [(.ref e), (.ref d), (.int (1 : Int32))]) (rest := []) 87 88 90 89 91 51 rfl rfl rfl rfl rfl rfl (H6.exa (i := 0) rfl) d_jdk_38_method_25_20 pd_7 (c_ad2 l tb b d c p nP nC eL mr k m e m2 h1 (cs) H6 M KN) 0 1 2 23 ?_
  rintro _ h7 ⟨g9, k10, rfl, H8⟩
  show Own.W l Z _ K _ h7 1 2 23 #[.val (.ref b), .val (.ref e)] []
  refine Own.W.iconst ok d_jdk_38_method_25_23 24 (1 : Int32) rfl ?_
  exact Own.W.iret ok d_jdk_38_method_25_24 rfl ⟨g9, k10, rfl, H8⟩
set_option maxRecDepth 65536 in
set_option maxHeartbeats 4000000 in
theorem c_dp1 (l : Launch) {Z : State} {a0 : Array Value} (tb : Own.Tb Z a0 tables_1) (p : Addr) (c : Addr) (nP : Addr) (nC : Addr) (eL : Addr) (eA : Addr) (ce : Cell) (n : Int32) (u : Int32) (m : Int32) (h : Heap) (cs : List (Addr × Own.Pc)) (H : Own.HS Z h ((p, o_Sync (.ref nP) (.ref nC) (.ref eL) (.int n) (.int u) .null (.int (0 : Int32)) (.int (0 : Int32)) .null (.int (0 : Int32)) (.int (0 : Int32)) (.int (0 : Int32)) (.int (0 : Int32))) :: (c, o_Sync (.ref nP) (.ref nC) (.ref eL) (.int m) (.int (0 : Int32)) .null (.int (0 : Int32)) (.int (0 : Int32)) .null (.int (0 : Int32)) (.int (0 : Int32)) (.int (0 : Int32)) (.int (0 : Int32))) :: cs)) (FE : Fld Z Z.heap eL "java/util/ImmutableCollections$ListN" "elements" "[Ljava/lang/Object;" (.ref eA)) (EE : Exa Z Z.heap eL "java/util/ImmutableCollections$ListN") (AE : RoadKit.Arr Z Z.heap eA ce (.object "java/lang/Object")) (he : ce.slots.size.toInt32 = (0 : Int32)) :
    Own.Con l Z (⟨"com/example/latchwork/latchwork/engine/SyncState", "adopt", "(Lcom/example/latchwork/latchwork/engine/SyncState;)V"⟩ : MethodName) prog_38_method_21_code 2 none ({ frames := 4, cells := 2, slots := 4, locals := 64 } : Room) #[(.ref p), (.ref c)] h (fun rr h' => ∃ (b : Addr) (d : Addr) (k : ClassId), rr = none ∧ Own.HS Z h' ((p, o_Sync (.ref nP) (.ref nC) (.ref b) (.int n) (.int u) .null (.int (0 : Int32)) (.int (0 : Int32)) .null (.int (0 : Int32)) (.int (0 : Int32)) (.int (0 : Int32)) (.int (0 : Int32))) :: (c, o_Sync (.ref nP) (.ref nC) (.ref eL) (.int m) (.int (0 : Int32)) (.ref p) (.int (0 : Int32)) (.int (0 : Int32)) .null (.int (0 : Int32)) (.int (0 : Int32)) (.int (0 : Int32)) (.int (0 : Int32))) :: (b, o_AL (.int (1 : Int32)) (.ref d) (.int (1 : Int32))) :: (d, .inr ((.object "java/lang/Object"), k, [(.ref c)])) :: cs) ∧ Ovr Z k "java/lang/Object" ∧ Z.vm.findClass "[Ljava/lang/Object;" = some k) := by
  refine Own.Con.of (plainFor_of_name (by first | (simp [plainName, overriddenIn]; done) | decide +kernel)) #[.val (.ref p), .val (.ref c)] (fun m => by first | rfl | (simp [entryFrame, mkF, argsToLocals, Value.category, maxLocals]; done)) (fun K ok => ?_)
  refine Own.W.aloadN ok d_prog_38_method_21_0 1 rfl rfl ?_
  refine Own.W.aloadN ok d_prog_38_method_21_1 2 rfl rfl ?_
  refine Own.W.putF ok tb H (i := 1) (j := 5) (ty := (.object "com/example/latchwork/latchwork/engine/SyncState")) (w' := (.ref p)) rfl rfl 35 1 rfl rfl Via.refl (Or.inl (tb _ (List.mem_of_getElem? (i := 36) rfl))) (Own.Lay.of (nw_Sync tb) rfl) (by decide) rfl rfl d_prog_38_method_21_2 5 ((p, o_Sync (.ref nP) (.ref nC) (.ref eL) (.int n) (.int u) .null (.int (0 : Int32)) (.int (0 : Int32)) .null (.int (0 : Int32)) (.int (0 : Int32)) (.int (0 : Int32)) (.int (0 : Int32))) :: (c, o_Sync (.ref nP) (.ref nC) (.ref eL) (.int m) (.int (0 : Int32)) (.ref p) (.int (0 : Int32)) (.int (0 : Int32)) .null (.int (0 : Int32)) (.int (0 : Int32)) (.int (0 : Int32)) (.int (0 : Int32))) :: cs) rfl (fun h1 H2 => ?_)
  refine Own.W.aloadN ok d_prog_38_method_21_5 6 rfl rfl ?_
  refine Own.W.getF ok tb 24 rfl Via.refl (H2.fld (i := 0) (j := 2) rfl rfl) d_prog_38_method_21_6 9 ?_
  refine Own.W.callF ok tb (a := eL) (argsL := []) (rest := []) 37 38 40 41 46 45 39 42 43 rfl rfl rfl rfl rfl rfl rfl rfl rfl 44 rfl (EE.ext H2.1) d_prog_38_method_21_9 pd_9 (c_lnE l tb eL eA ce h1 (FE.ext H2.1) (AE.ext H2.1) he) 0 0 0 14 ?_
  rintro _ _ ⟨rfl, rfl⟩
  show Own.W l Z _ K _ h1 0 0 14 #[.val (.ref p), .val (.ref c)] [(.int (1 : Int32))]
  refine Own.W.ifF ok d_prog_38_method_21_14 17 (by decide : ¬ ((1 : Int32) = (0 : Int32))) ?_
  refine Own.W.aloadN ok d_prog_38_method_21_17 18 rfl rfl ?_
  refine Own.W.new ok tb H2 49 50 51 rfl rfl rfl (nw_AL tb) d_prog_38_method_21_18 1 3 21 (fun a3 h4 H5 => ?_)
  show Own.W l Z _ K _ h4 1 3 21 #[.val (.ref p), .val (.ref c)] [(.ref a3), (.ref p)]
  refine Own.W.dup ok d_prog_38_method_21_21 22 rfl ?_
  refine Own.W.iconst ok d_prog_38_method_21_22 23 (1 : Int32) rfl ?_
  refine Own.W.callI ok tb (a := a3) (argsL := [(.int (1 : Int32))]) (rest := [(.ref a3), (.ref p)]) 52 53 51 54 rfl rfl rfl rfl d_prog_38_method_21_23 pd_10 (c_ali l tb a3 h4 ((p, o_Sync (.ref nP) (.ref nC) (.ref eL) (.int n) (.int u) .null (.int (0 : Int32)) (.int (0 : Int32)) .null (.int (0 : Int32)) (.int (0 : Int32)) (.int (0 : Int32)) (.int (0 : Int32))) :: (c, o_Sync (.ref nP) (.ref nC) (.ref eL) (.int m) (.int (0 : Int32)) (.ref p) (.int (0 : Int32)) (.int (0 : Int32)) .null (.int (0 : Int32)) (.int (0 : Int32)) (.int (0 : Int32)) (.int (0 : Int32))) :: cs) H5) 2 2 4 26 ?_
  rintro _ h6 ⟨b8, k9, rfl, H7, hq10, hq11⟩
  show Own.W l Z _ K _ h6 2 4 26 #[.val (.ref p), .val (.ref c)] [(.ref a3), (.ref p)]
  refine Own.W.putF ok tb H7 (i := 2) (j := 2) (ty := (.object "java/util/List")) (w' := (.ref a3)) rfl rfl 24 1 rfl rfl Via.refl (Or.inl (tb _ (List.mem_of_getElem? (i := 25) rfl))) (Own.Lay.of (nw_Sync tb) rfl) (by decide) rfl rfl d_prog_38_method_21_26 29 ((a3, o_AL (.int (0 : Int32)) (.ref b8) (.int (0 : Int32))) :: (b8, .inr ((.object "java/lang/Object"), k9, [.null])) :: (p, o_Sync (.ref nP) (.ref nC) (.ref a3) (.int n) (.int u) .null (.int (0 : Int32)) (.int (0 : Int32)) .null (.int (0 : Int32)) (.int (0 : Int32)) (.int (0 : Int32)) (.int (0 : Int32))) :: (c, o_Sync (.ref nP) (.ref nC) (.ref eL) (.int m) (.int (0 : Int32)) (.ref p) (.int (0 : Int32)) (.int (0 : Int32)) .null (.int (0 : Int32)) (.int (0 : Int32)) (.int (0 : Int32)) (.int (0 : Int32))) :: cs) rfl (fun h12 H13 => ?_)
  refine Own.W.aloadN ok d_prog_38_method_21_29 30 rfl rfl ?_
  refine Own.W.getF ok tb 24 rfl Via.refl (H13.fld (i := 2) (j := 2) rfl rfl) d_prog_38_method_21_30 33 ?_
  refine Own.W.aloadN ok d_prog_38_method_21_33 34 rfl rfl ?_
  have H14 : Own.HS Z h12 ((c, o_Sync (.ref nP) (.ref nC) (.ref eL) (.int m) (.int (0 : Int32)) (.ref p) (.int (0 : Int32)) (.int (0 : Int32)) .null (.int (0 : Int32)) (.int (0 : Int32)) (.int (0 : Int32)) (.int (0 : Int32))) :: (a3, o_AL (.int (0 : Int32)) (.ref b8) (.int (0 : Int32))) :: (b8, .inr ((.object "java/lang/Object"), k9, [.null])) :: (p, o_Sync (.ref nP) (.ref nC) (.ref a3) (.int n) (.int u) .null (.int (0 : Int32)) (.int (0 : Int32)) .null (.int (0 : Int32)) (.int (0 : Int32)) (.int (0 : Int32)) (.int (0 : Int32))) :: cs) := H13.pull 3 _ rfl rfl
  have H15 : Own.HS Z h12 ((b8, .inr ((.object "java/lang/Object"), k9, [.null])) :: (c, o_Sync (.ref nP) (.ref nC) (.ref eL) (.int m) (.int (0 : Int32)) (.ref p) (.int (0 : Int32)) (.int (0 : Int32)) .null (.int (0 : Int32)) (.int (0 : Int32)) (.int (0 : Int32)) (.int (0 : Int32))) :: (a3, o_AL (.int (0 : Int32)) (.ref b8) (.int (0 : Int32))) :: (p, o_Sync (.ref nP) (.ref nC) (.ref a3) (.int n) (.int u) .null (.int (0 : Int32)) (.int (0 : Int32)) .null (.int (0 : Int32)) (.int (0 : Int32)) (.int (0 : Int32)) (.int (0 : Int32))) :: cs) := H14.pull 2 _ rfl rfl
  have H16 : Own.HS Z h12 ((a3, o_AL (.int (0 : Int32)) (.ref b8) (.int (0 : Int32))) :: (b8, .inr ((.object "java/lang/Object"), k9, [.null])) :: (c, o_Sync (.ref nP) (.ref nC) (.ref eL) (.int m) (.int (0 : Int32)) (.ref p) (.int (0 : Int32)) (.int (0 : Int32)) .null (.int (0 : Int32)) (.int (0 : Int32)) (.int (0 : Int32)) (.int (0 : Int32))) :: (p, o_Sync (.ref nP) (.ref nC) (.ref a3) (.int n) (.int u) .null (.int (0 : Int32)) (.int (0 : Int32)) .null (.int (0 : Int32)) (.int (0 : Int32)) (.int (0 : Int32)) (.int (0 : Int32))) :: cs) := H15.pull 2 _ rfl rfl
  refine Own.W.callF ok tb (a := a3) (argsL := [(.ref c)]) (rest := []) 74 75 77 78 82 51 76 79 80 rfl rfl rfl rfl rfl rfl rfl rfl rfl 81 rfl (H16.exa (i := 0) rfl) d_prog_38_method_21_34 pd_11 (c_add1 l tb a3 b8 c p nP nC eL k9 m h12 ((p, o_Sync (.ref nP) (.ref nC) (.ref a3) (.int n) (.int u) .null (.int (0 : Int32)) (.int (0 : Int32)) .null (.int (0 : Int32)) (.int (0 : Int32)) (.int (0 : Int32)) (.int (0 : Int32))) :: cs) H16 hq10) 0 2 4 39 ?_
  rintro _ h17 ⟨rfl, H18⟩
  show Own.W l Z _ K _ h17 2 4 39 #[.val (.ref p), .val (.ref c)] [(.int (1 : Int32))]
  refine Own.W.pop ok d_prog_38_method_21_39 40 rfl ?_
  exact Own.W.vret ok d_prog_38_method_21_40 ⟨a3, b8, k9, rfl, ((((H18.pull 1 ((b8, .inr ((.object "java/lang/Object"), k9, [(.ref c)])) :: (a3, o_AL (.int (1 : Int32)) (.ref b8) (.int (1 : Int32))) :: (c, o_Sync (.ref nP) (.ref nC) (.ref eL) (.int m) (.int (0 : Int32)) (.ref p) (.int (0 : Int32)) (.int (0 : Int32)) .null (.int (0 : Int32)) (.int (0 : Int32)) (.int (0 : Int32)) (.int (0 : Int32))) :: (p, o_Sync (.ref nP) (.ref nC) (.ref a3) (.int n) (.int u) .null (.int (0 : Int32)) (.int (0 : Int32)) .null (.int (0 : Int32)) (.int (0 : Int32)) (.int (0 : Int32)) (.int (0 : Int32))) :: cs) rfl rfl).pull 1 ((a3, o_AL (.int (1 : Int32)) (.ref b8) (.int (1 : Int32))) :: (b8, .inr ((.object "java/lang/Object"), k9, [(.ref c)])) :: (c, o_Sync (.ref nP) (.ref nC) (.ref eL) (.int m) (.int (0 : Int32)) (.ref p) (.int (0 : Int32)) (.int (0 : Int32)) .null (.int (0 : Int32)) (.int (0 : Int32)) (.int (0 : Int32)) (.int (0 : Int32))) :: (p, o_Sync (.ref nP) (.ref nC) (.ref a3) (.int n) (.int u) .null (.int (0 : Int32)) (.int (0 : Int32)) .null (.int (0 : Int32)) (.int (0 : Int32)) (.int (0 : Int32)) (.int (0 : Int32))) :: cs) rfl rfl).pull 2 ((c, o_Sync (.ref nP) (.ref nC) (.ref eL) (.int m) (.int (0 : Int32)) (.ref p) (.int (0 : Int32)) (.int (0 : Int32)) .null (.int (0 : Int32)) (.int (0 : Int32)) (.int (0 : Int32)) (.int (0 : Int32))) :: (a3, o_AL (.int (1 : Int32)) (.ref b8) (.int (1 : Int32))) :: (b8, .inr ((.object "java/lang/Object"), k9, [(.ref c)])) :: (p, o_Sync (.ref nP) (.ref nC) (.ref a3) (.int n) (.int u) .null (.int (0 : Int32)) (.int (0 : Int32)) .null (.int (0 : Int32)) (.int (0 : Int32)) (.int (0 : Int32)) (.int (0 : Int32))) :: cs) rfl rfl).pull 3 ((p, o_Sync (.ref nP) (.ref nC) (.ref a3) (.int n) (.int u) .null (.int (0 : Int32)) (.int (0 : Int32)) .null (.int (0 : Int32)) (.int (0 : Int32)) (.int (0 : Int32)) (.int (0 : Int32))) :: (c, o_Sync (.ref nP) (.ref nC) (.ref eL) (.int m) (.int (0 : Int32)) (.ref p) (.int (0 : Int32)) (.int (0 : Int32)) .null (.int (0 : Int32)) (.int (0 : Int32)) (.int (0 : Int32)) (.int (0 : Int32))) :: (a3, o_AL (.int (1 : Int32)) (.ref b8) (.int (1 : Int32))) :: (b8, .inr ((.object "java/lang/Object"), k9, [(.ref c)])) :: cs) rfl rfl), hq10, hq11⟩
set_option maxRecDepth 65536 in
set_option maxHeartbeats 4000000 in
theorem c_dp2 (l : Launch) {Z : State} {a0 : Array Value} (tb : Own.Tb Z a0 tables_1) (p : Addr) (c : Addr) (e : Addr) (nP : Addr) (nC : Addr) (eL : Addr) (b : Addr) (d : Addr) (mr : Addr) (k : ClassId) (n : Int32) (u : Int32) (m : Int32) (m2 : Int32) (h : Heap) (cs : List (Addr × Own.Pc)) (H : Own.HS Z h ((p, o_Sync (.ref nP) (.ref nC) (.ref b) (.int n) (.int u) .null (.int (0 : Int32)) (.int (0 : Int32)) .null (.int (0 : Int32)) (.int (0 : Int32)) (.int (0 : Int32)) (.int (0 : Int32))) :: (e, o_Sync (.ref nP) (.ref nC) (.ref eL) (.int m2) (.int (0 : Int32)) .null (.int (0 : Int32)) (.int (0 : Int32)) .null (.int (0 : Int32)) (.int (0 : Int32)) (.int (0 : Int32)) (.int (0 : Int32))) :: (b, o_AL (.int (1 : Int32)) (.ref d) (.int (1 : Int32))) :: (d, .inr ((.object "java/lang/Object"), k, [(.ref c)])) :: (c, o_Sync (.ref nP) (.ref nC) (.ref eL) (.int m) (.int (0 : Int32)) (.ref p) (.int (0 : Int32)) (.int (0 : Int32)) .null (.int (0 : Int32)) (.int (0 : Int32)) (.int (0 : Int32)) (.int (0 : Int32))) :: cs)) (M : Own.Mr Z "[Ljava/lang/Object;" mr) (KN : Z.vm.findClass "[Ljava/lang/Object;" = some k) :
    Own.Con l Z (⟨"com/example/latchwork/latchwork/engine/SyncState", "adopt", "(Lcom/example/latchwork/latchwork/engine/SyncState;)V"⟩ : MethodName) prog_38_method_21_code 2 none ({ frames := 7, cells := 1, slots := 2, locals := 168 } : Room) #[(.ref p), (.ref e)] h (fun rr h' => ∃ (g : Addr) (k2 : ClassId), rr = none ∧ Own.HS Z h' ((p, o_Sync (.ref nP) (.ref nC) (.ref b) (.int n) (.int u) .null (.int (0 : Int32)) (.int (0 : Int32)) .null (.int (0 : Int32)) (.int (0 : Int32)) (.int (0 : Int32)) (.int (0 : Int32))) :: (e, o_Sync (.ref nP) (.ref nC) (.ref eL) (.int m2) (.int (0 : Int32)) (.ref p) (.int (0 : Int32)) (.int (0 : Int32)) .null (.int (0 : Int32)) (.int (0 : Int32)) (.int (0 : Int32)) (.int (0 : Int32))) :: (b, o_AL (.int (2 : Int32)) (.ref g) (.int (2 : Int32))) :: (g, .inr ((.object "java/lang/Object"), k2, [(.ref c), (.ref e)])) :: (d, .inr ((.object "java/lang/Object"), k, [(.ref c)])) :: (c, o_Sync (.ref nP) (.ref nC) (.ref eL) (.int m) (.int (0 : Int32)) (.ref p) (.int (0 : Int32)) (.int (0 : Int32)) .null (.int (0 : Int32)) (.int (0 : Int32)) (.int (0 : Int32)) (.int (0 : Int32))) :: cs)) := by
  refine Own.Con.of (plainFor_of_name (by first | (simp [plainName, overriddenIn]; done) | decide +kernel)) #[.val (.ref p), .val (.ref e)] (fun m => by first | rfl | (simp [entryFrame, mkF, argsToLocals, Value.category, maxLocals]; done)) (fun K ok => ?_)
  refine Own.W.aloadN ok d_prog_38_method_21_0 1 rfl rfl ?_
  refine Own.W.aloadN ok d_prog_38_method_21_1 2 rfl rfl ?_
  refine Own.W.putF ok tb H (i := 1) (j := 5) (ty := (.object "com/example/latchwork/latchwork/engine/SyncState")) (w' := (.ref p)) rfl rfl 35 1 rfl rfl Via.refl (Or.inl (tb _ (List.mem_of_getElem? (i := 36) rfl))) (Own.Lay.of (nw_Sync tb) rfl) (by decide) rfl rfl d_prog_38_method_21_2 5 ((p, o_Sync (.ref nP) (.ref nC) (.ref b) (.int n) (.int u) .null (.int (0 : Int32)) (.int (0 : Int32)) .null (.int (0 : Int32)) (.int (0 : Int32)) (.int (0 : Int32)) (.int (0 : Int32))) :: (e, o_Sync (.ref nP) (.ref nC) (.ref eL) (.int m2) (.int (0 : Int32)) (.ref p) (.int (0 : Int32)) (.int (0 : Int32)) .null (.int (0 : Int32)) (.int (0 : Int32)) (.int (0 : Int32)) (.int (0 : Int32))) :: (b, o_AL (.int (1 : Int32)) (.ref d) (.int (1 : Int32))) :: (d, .inr ((.object "java/lang/Object"), k, [(.ref c)])) :: (c, o_Sync (.ref nP) (.ref nC) (.ref eL) (.int m) (.int (0 : Int32)) (.ref p) (.int (0 : Int32)) (.int (0 : Int32)) .null (.int (0 : Int32)) (.int (0 : Int32)) (.int (0 : Int32)) (.int (0 : Int32))) :: cs) rfl (fun h1 H2 => ?_)
  refine Own.W.aloadN ok d_prog_38_method_21_5 6 rfl rfl ?_
  refine Own.W.getF ok tb 24 rfl Via.refl (H2.fld (i := 0) (j := 2) rfl rfl) d_prog_38_method_21_6 9 ?_
  refine Own.W.callF ok tb (a := b) (argsL := []) (rest := []) 37 38 93 94 97 51 39 95 96 rfl rfl rfl rfl rfl rfl rfl rfl rfl 81 rfl (H2.exa (i := 2) rfl) d_prog_38_method_21_9 pd_9 (c_alE l tb b h1 (H2.fld (i := 2) (j := 2) rfl rfl)) 0 0 0 14 ?_
  rintro _ _ ⟨rfl, rfl⟩
  show Own.W l Z _ K _ h1 0 0 14 #[.val (.ref p), .val (.ref e)] [(.int (0 : Int32))]
  refine Own.W.ifT ok d_prog_38_method_21_14 29 (by decide : (0 : Int32) = (0 : Int32)) ?_
  refine Own.W.aloadN ok d_prog_38_method_21_29 30 rfl rfl ?_
  refine Own.W.getF ok tb 24 rfl Via.refl (H2.fld (i := 0) (j := 2) rfl rfl) d_prog_38_method_21_30 33 ?_
  refine Own.W.aloadN ok d_prog_38_method_21_33 34 rfl rfl ?_
  have H3 : Own.HS Z h1 ((e, o_Sync (.ref nP) (.ref nC) (.ref eL) (.int m2) (.int (0 : Int32)) (.ref p) (.int (0 : Int32)) (.int (0 : Int32)) .null (.int (0 : Int32)) (.int (0 : Int32)) (.int (0 : Int32)) (.int (0 : Int32))) :: (p, o_Sync (.ref nP) (.ref nC) (.ref b) (.int n) (.int u) .null (.int (0 : Int32)) (.int (0 : Int32)) .null (.int (0 : Int32)) (.int (0 : Int32)) (.int (0 : Int32)) (.int (0 : Int32))) :: (b, o_AL (.int (1 : Int32)) (.ref d) (.int (1 : Int32))) :: (d, .inr ((.object "java/lang/Object"), k, [(.ref c)])) :: (c, o_Sync (.ref nP) (.ref nC) (.ref eL) (.int m) (.int (0 : Int32)) (.ref p) (.int (0 : Int32)) (.int (0 : Int32)) .null (.int (0 : Int32)) (.int (0 : Int32)) (.int (0 : Int32)) (.int (0 : Int32))) :: cs) := H2.pull 1 _ rfl rfl
  have H4 : Own.HS Z h1 ((c, o_Sync (.ref nP) (.ref nC) (.ref eL) (.int m) (.int (0 : Int32)) (.ref p) (.int (0 : Int32)) (.int (0 : Int32)) .null (.int (0 : Int32)) (.int (0 : Int32)) (.int (0 : Int32)) (.int (0 : Int32))) :: (e, o_Sync (.ref nP) (.ref nC) (.ref eL) (.int m2) (.int (0 : Int32)) (.ref p) (.int (0 : Int32)) (.int (0 : Int32)) .null (.int (0 : Int32)) (.int (0 : Int32)) (.int (0 : Int32)) (.int (0 : Int32))) :: (p, o_Sync (.ref nP) (.ref nC) (.ref b) (.int n) (.int u) .null (.int (0 : Int32)) (.int (0 : Int32)) .null (.int (0 : Int32)) (.int (0 : Int32)) (.int (0 : Int32)) (.int (0 : Int32))) :: (b, o_AL (.int (1 : Int32)) (.ref d) (.int (1 : Int32))) :: (d, .inr ((.object "java/lang/Object"), k, [(.ref c)])) :: cs) := H3.pull 4 _ rfl rfl
  have H5 : Own.HS Z h1 ((d, .inr ((.object "java/lang/Object"), k, [(.ref c)])) :: (c, o_Sync (.ref nP) (.ref nC) (.ref eL) (.int m) (.int (0 : Int32)) (.ref p) (.int (0 : Int32)) (.int (0 : Int32)) .null (.int (0 : Int32)) (.int (0 : Int32)) (.int (0 : Int32)) (.int (0 : Int32))) :: (e, o_Sync (.ref nP) (.ref nC) (.ref eL) (.int m2) (.int (0 : Int32)) (.ref p) (.int (0 : Int32)) (.int (0 : Int32)) .null (.int (0 : Int32)) (.int (0 : Int32)) (.int (0 : Int32)) (.int (0 : Int32))) :: (p, o_Sync (.ref nP) (.ref nC) (.ref b) (.int n) (.int u) .null (.int (0 : Int32)) (.int (0 : Int32)) .null (.int (0 : Int32)) (.int (0 : Int32)) (.int (0 : Int32)) (.int (0 : Int32))) :: (b, o_AL (.int (1 : Int32)) (.ref d) (.int (1 : Int32))) :: cs) := H4.pull 4 _ rfl rfl
  have H6 : Own.HS Z h1 ((b, o_AL (.int (1 : Int32)) (.ref d) (.int (1 : Int32))) :: (d, .inr ((.object "java/lang/Object"), k, [(.ref c)])) :: (c, o_Sync (.ref nP) (.ref nC) (.ref eL) (.int m) (.int (0 : Int32)) (.ref p) (.int (0 : Int32)) (.int (0 : Int32)) .null (.int (0 : Int32)) (.int (0 : Int32)) (.int (0 : Int32)) (.int (0 : Int32))) :: (e, o_Sync (.ref nP) (.ref nC) (.ref eL) (.int m2) (.int (0 : Int32)) (.ref p) (.int (0 : Int32)) (.int (0 : Int32)) .null (.int (0 : Int32)) (.int (0 : Int32)) (.int (0 : Int32)) (.int (0 : Int32))) :: (p, o_Sync (.ref nP) (.ref nC) (.ref b) (.int n) (.int u) .null (.int (0 : Int32)) (.int (0 : Int32)) .null (.int (0 : Int32)) (.int (0 : Int32)) (.int (0 : Int32)) (.int (0 : Int32))) :: cs) := H5.pull 4 _ rfl rfl
  refine Own.W.callF ok tb (a := b) (argsL := [(.ref e)]) (rest := []) 74 75 77 78 82 51 76 79 80 rfl rfl rfl rfl rfl rfl rfl rfl rfl 81 rfl (H6.exa (i := 0) rfl) d_prog_38_method_21_34 pd_11 (c_add2 l tb b d c p nP nC eL mr k m e m2 h1 ((p, o_Sync (.ref nP) (.ref nC) (.ref b) (.int n) (.int u) .null (.int (0 : Int32)) (.int (0 : Int32)) .null (.int (0 : Int32)) (.int (0 : Int32)) (.int (0 : Int32)) (.int (0 : Int32))) :: cs) H6 M KN) 0 1 2 39 ?_
  rintro _ h7 ⟨g9, k10, rfl, H8⟩
  show Own.W l Z _ K _ h7 1 2 39 #[.val (.ref p), .val (.ref e)] [(.int (1 : Int32))]
  refine Own.W.pop ok d_prog_38_method_21_39 40 rfl ?_
  exact Own.W.vret ok d_prog_38_method_21_40 ⟨g9, k10, rfl, ((((((H8.pull 3 ((c, o_Sync (.ref nP) (.ref nC) (.ref eL) (.int m) (.int (0 : Int32)) (.ref p) (.int (0 : Int32)) (.int (0 : Int32)) .null (.int (0 : Int32)) (.int (0 : Int32)) (.int (0 : Int32)) (.int (0 : Int32))) :: (b, o_AL (.int (2 : Int32)) (.ref g9) (.int (2 : Int32))) :: (g9, .inr ((.object "java/lang/Object"), k10, [(.ref c), (.ref e)])) :: (d, .inr ((.object "java/lang/Object"), k, [(.ref c)])) :: (e, o_Sync (.ref nP) (.ref nC) (.ref eL) (.int m2) (.int (0 : Int32)) (.ref p) (.int (0 : Int32)) (.int (0 : Int32)) .null (.int (0 : Int32)) (.int (0 : Int32)) (.int (0 : Int32)) (.int (0 : Int32))) :: (p, o_Sync (.ref nP) (.ref nC) (.ref b) (.int n) (.int u) .null (.int (0 : Int32)) (.int (0 : Int32)) .null (.int (0 : Int32)) (.int (0 : Int32)) (.int (0 : Int32)) (.int (0 : Int32))) :: cs) rfl rfl).pull 3 ((d, .inr ((.object "java/lang/Object"), k, [(.ref c)])) :: (c, o_Sync (.ref nP) (.ref nC) (.ref eL) (.int m) (.int (0 : Int32)) (.ref p) (.int (0 : Int32)) (.int (0 : Int32)) .null (.int (0 : Int32)) (.int (0 : Int32)) (.int (0 : Int32)) (.int (0 : Int32))) :: (b, o_AL (.int (2 : Int32)) (.ref g9) (.int (2 : Int32))) :: (g9, .inr ((.object "java/lang/Object"), k10, [(.ref c), (.ref e)])) :: (e, o_Sync (.ref nP) (.ref nC) (.ref eL) (.int m2) (.int (0 : Int32)) (.ref p) (.int (0 : Int32)) (.int (0 : Int32)) .null (.int (0 : Int32)) (.int (0 : Int32)) (.int (0 : Int32)) (.int (0 : Int32))) :: (p, o_Sync (.ref nP) (.ref nC) (.ref b) (.int n) (.int u) .null (.int (0 : Int32)) (.int (0 : Int32)) .null (.int (0 : Int32)) (.int (0 : Int32)) (.int (0 : Int32)) (.int (0 : Int32))) :: cs) rfl rfl).pull 3 ((g9, .inr ((.object "java/lang/Object"), k10, [(.ref c), (.ref e)])) :: (d, .inr ((.object "java/lang/Object"), k, [(.ref c)])) :: (c, o_Sync (.ref nP) (.ref nC) (.ref eL) (.int m) (.int (0 : Int32)) (.ref p) (.int (0 : Int32)) (.int (0 : Int32)) .null (.int (0 : Int32)) (.int (0 : Int32)) (.int (0 : Int32)) (.int (0 : Int32))) :: (b, o_AL (.int (2 : Int32)) (.ref g9) (.int (2 : Int32))) :: (e, o_Sync (.ref nP) (.ref nC) (.ref eL) (.int m2) (.int (0 : Int32)) (.ref p) (.int (0 : Int32)) (.int (0 : Int32)) .null (.int (0 : Int32)) (.int (0 : Int32)) (.int (0 : Int32)) (.int (0 : Int32))) :: (p, o_Sync (.ref nP) (.ref nC) (.ref b) (.int n) (.int u) .null (.int (0 : Int32)) (.int (0 : Int32)) .null (.int (0 : Int32)) (.int (0 : Int32)) (.int (0 : Int32)) (.int (0 : Int32))) :: cs) rfl rfl).pull 3 ((b, o_AL (.int (2 : Int32)) (.ref g9) (.int (2 : Int32))) :: (g9, .inr ((.object "java/lang/Object"), k10, [(.ref c), (.ref e)])) :: (d, .inr ((.object "java/lang/Object"), k, [(.ref c)])) :: (c, o_Sync (.ref nP) (.ref nC) (.ref eL) (.int m) (.int (0 : Int32)) (.ref p) (.int (0 : Int32)) (.int (0 : Int32)) .null (.int (0 : Int32)) (.int (0 : Int32)) (.int (0 : Int32)) (.int (0 : Int32))) :: (e, o_Sync (.ref nP) (.ref nC) (.ref eL) (.int m2) (.int (0 : Int32)) (.ref p) (.int (0 : Int32)) (.int (0 : Int32)) .null (.int (0 : Int32)) (.int (0 : Int32)) (.int (0 : Int32)) (.int (0 : Int32))) :: (p, o_Sync (.ref nP) (.ref nC) (.ref b) (.int n) (.int u) .null (.int (0 : Int32)) (.int (0 : Int32)) .null (.int (0 : Int32)) (.int (0 : Int32)) (.int (0 : Int32)) (.int (0 : Int32))) :: cs) rfl rfl).pull 4 ((e, o_Sync (.ref nP) (.ref nC) (.ref eL) (.int m2) (.int (0 : Int32)) (.ref p) (.int (0 : Int32)) (.int (0 : Int32)) .null (.int (0 : Int32)) (.int (0 : Int32)) (.int (0 : Int32)) (.int (0 : Int32))) :: (b, o_AL (.int (2 : Int32)) (.ref g9) (.int (2 : Int32))) :: (g9, .inr ((.object "java/lang/Object"), k10, [(.ref c), (.ref e)])) :: (d, .inr ((.object "java/lang/Object"), k, [(.ref c)])) :: (c, o_Sync (.ref nP) (.ref nC) (.ref eL) (.int m) (.int (0 : Int32)) (.ref p) (.int (0 : Int32)) (.int (0 : Int32)) .null (.int (0 : Int32)) (.int (0 : Int32)) (.int (0 : Int32)) (.int (0 : Int32))) :: (p, o_Sync (.ref nP) (.ref nC) (.ref b) (.int n) (.int u) .null (.int (0 : Int32)) (.int (0 : Int32)) .null (.int (0 : Int32)) (.int (0 : Int32)) (.int (0 : Int32)) (.int (0 : Int32))) :: cs) rfl rfl).pull 5 ((p, o_Sync (.ref nP) (.ref nC) (.ref b) (.int n) (.int u) .null (.int (0 : Int32)) (.int (0 : Int32)) .null (.int (0 : Int32)) (.int (0 : Int32)) (.int (0 : Int32)) (.int (0 : Int32))) :: (e, o_Sync (.ref nP) (.ref nC) (.ref eL) (.int m2) (.int (0 : Int32)) (.ref p) (.int (0 : Int32)) (.int (0 : Int32)) .null (.int (0 : Int32)) (.int (0 : Int32)) (.int (0 : Int32)) (.int (0 : Int32))) :: (b, o_AL (.int (2 : Int32)) (.ref g9) (.int (2 : Int32))) :: (g9, .inr ((.object "java/lang/Object"), k10, [(.ref c), (.ref e)])) :: (d, .inr ((.object "java/lang/Object"), k, [(.ref c)])) :: (c, o_Sync (.ref nP) (.ref nC) (.ref eL) (.int m) (.int (0 : Int32)) (.ref p) (.int (0 : Int32)) (.int (0 : Int32)) .null (.int (0 : Int32)) (.int (0 : Int32)) (.int (0 : Int32)) (.int (0 : Int32))) :: cs) rfl rfl)⟩
set_option maxRecDepth 65536 in
set_option maxHeartbeats 4000000 in
theorem c_sli (l : Launch) {Z : State} {a0 : Array Value} (tb : Own.Tb Z a0 tables_1) (t : Addr) (nS : Addr) (h : Heap) (cs : List (Addr × Own.Pc)) (H : Own.HS Z h ((t, o_Unit .null .null (.int (0 : Int32)) .null (.int (0 : Int32)) (.int (0 : Int32))) :: cs)) (SN : Sta Z Z.heap "com/example/latchwork/latchwork/engine/SyncList" "NONE" "[Lcom/example/latchwork/latchwork/engine/SyncState;" (.ref nS)) :
    Own.Con l Z (⟨"com/example/latchwork/latchwork/engine/SyncList", "<init>", "()V"⟩ : MethodName) prog_37_method_1_code 1 none ({ frames := 1, cells := 0, slots := 0, locals := 12 } : Room) #[(.ref t)] h (fun rr h' => rr = none ∧ Own.HS Z h' ((t, o_Unit (.ref nS) .null (.int (0 : Int32)) .null (.int (0 : Int32)) (.int (0 : Int32))) :: cs)) := by
  refine Own.Con.of (plainFor_of_name (by first | (simp [plainName, overriddenIn]; done) | decide +kernel)) #[.val (.ref t)] (fun m => by first | rfl | (simp [entryFrame, mkF, argsToLocals, Value.category, maxLocals]; done)) (fun K ok => ?_)
  refine Own.W.aloadN ok d_prog_37_method_1_0 1 rfl rfl ?_
  refine Own.W.initO ok tb 153 7 8 rfl rfl rfl d_prog_37_method_1_1 0 4 ?_
  refine Own.W.aloadN ok d_prog_37_method_1_4 5 rfl rfl ?_
  refine Own.W.getS ok tb 154 rfl Via.refl (H.sta SN) d_prog_37_method_1_5 8 ?_
  refine Own.W.putF ok tb H (i := 0) (j := 0) (ty := (.array (.object "com/example/latchwork/latchwork/engine/SyncState"))) (w' := (.ref nS)) rfl rfl 156 144 rfl rfl Via.refl (Or.inl (tb _ (List.mem_of_getElem? (i := 157) rfl))) (Own.Lay.of (nw_Unit tb) rfl) (by decide) rfl rfl d_prog_37_method_1_8 11 ((t, o_Unit (.ref nS) .null (.int (0 : Int32)) .null (.int (0 : Int32)) (.int (0 : Int32))) :: cs) rfl (fun h1 H2 => ?_)
  exact Own.W.vret ok d_prog_37_method_1_11 ⟨rfl, H2⟩
set_option maxRecDepth 65536 in
set_option maxHeartbeats 4000000 in
theorem c_uni (l : Launch) {Z : State} {a0 : Array Value} (tb : Own.Tb Z a0 tables_1) (t : Addr) (nS : Addr) (nR : Addr) (h : Heap) (cs : List (Addr × Own.Pc)) (H : Own.HS Z h ((t, o_Unit .null .null (.int (0 : Int32)) .null (.int (0 : Int32)) (.int (0 : Int32))) :: cs)) (SN : Sta Z Z.heap "com/example/latchwork/latchwork/engine/SyncList" "NONE" "[Lcom/example/latchwork/latchwork/engine/SyncState;" (.ref nS)) (SR : Sta Z Z.heap "com/example/latchwork/latchwork/engine/Unit" "NO_RUNS" "[Ljava/lang/Object;" (.ref nR)) :
    Own.Con l Z (⟨"com/example/latchwork/latchwork/engine/Unit", "<init>", "()V"⟩ : MethodName) prog_47_method_1_code 1 none ({ frames := 2, cells := 0, slots := 0, locals := 24 } : Room) #[(.ref t)] h (fun rr h' => rr = none ∧ Own.HS Z h' ((t, o_Unit (.ref nS) (.ref nR) (.int (0 : Int32)) .null (.int (0 : Int32)) (.int (0 : Int32))) :: cs)) := by
  refine Own.Con.of (plainFor_of_name (by first | (simp [plainName, overriddenIn]; done) | decide +kernel)) #[.val (.ref t)] (fun m => by first | rfl | (simp [entryFrame, mkF, argsToLocals, Value.category, maxLocals]; done)) (fun K ok => ?_)
  refine Own.W.aloadN ok d_prog_47_method_1_0 1 rfl rfl ?_
  refine Own.W.callI ok tb (a := t) (argsL := []) (rest := []) 148 149 151 152 rfl rfl rfl rfl d_prog_47_method_1_1 pd_1 (c_sli l tb t nS h (cs) H SN) 0 0 0 4 ?_
  rintro _ h1 ⟨rfl, H2⟩
  show Own.W l Z _ K _ h1 0 0 4 #[.val (.ref t)] []
  refine Own.W.aloadN ok d_prog_47_method_1_4 5 rfl rfl ?_
  refine Own.W.getS ok tb 158 rfl Via.refl (H2.sta SR) d_prog_47_method_1_5 8 ?_
  refine Own.W.putF ok tb H2 (i := 0) (j := 1) (ty := (.array (.object "java/lang/Object"))) (w' := (.ref nR)) rfl rfl 160 144 rfl rfl Via.refl (Or.inl (tb _ (List.mem_of_getElem? (i := 161) rfl))) (Own.Lay.of (nw_Unit tb) rfl) (by decide) rfl rfl d_prog_47_method_1_8 11 ((t, o_Unit (.ref nS) (.ref nR) (.int (0 : Int32)) .null (.int (0 : Int32)) (.int (0 : Int32))) :: cs) rfl (fun h3 H4 => ?_)
  exact Own.W.vret ok d_prog_47_method_1_11 ⟨rfl, H4⟩
set_option maxRecDepth 65536 in
set_option maxHeartbeats 4000000 in
theorem c_ads (l : Launch) {Z : State} {a0 : Array Value} (tb : Own.Tb Z a0 tables_1) (t : Addr) (p : Addr) (nS : Addr) (nR : Addr) (h : Heap) (cs : List (Addr × Own.Pc)) (H : Own.HS Z h ((t, o_Unit (.ref nS) (.ref nR) (.int (0 : Int32)) .null (.int (0 : Int32)) (.int (0 : Int32))) :: cs)) :
    Own.Con l Z (⟨"com/example/latchwork/latchwork/engine/SyncList", "addSync", "(Lcom/example/latchwork/latchwork/engine/SyncState;)V"⟩ : MethodName) prog_37_method_4_code 2 none ({ frames := 0, cells := 0, slots := 0, locals := 0 } : Room) #[(.ref t), (.ref p)] h (fun rr h' => rr = none ∧ Own.HS Z h' ((t, o_Unit (.ref nS) (.ref nR) (.int (1 : Int32)) (.ref p) (.int (0 : Int32)) (.int (0 : Int32))) :: cs)) := by
  refine Own.Con.of (plainFor_of_name (by first | (simp [plainName, overriddenIn]; done) | decide +kernel)) #[.val (.ref t), .val (.ref p)] (fun m => by first | rfl | (simp [entryFrame, mkF, argsToLocals, Value.category, maxLocals]; done)) (fun K ok => ?_)
  refine Own.W.aloadN ok d_prog_37_method_4_0 1 rfl rfl ?_
  refine Own.W.getF ok tb 168 rfl Via.refl (H.fld (i := 0) (j := 2) rfl rfl) d_prog_37_method_4_1 4 ?_
  refine Own.W.ifF ok d_prog_37_method_4_4 7 (by decide : (0 : Int32) = (0 : Int32)) ?_
  refine Own.W.aloadN ok d_prog_37_method_4_7 8 rfl rfl ?_
  refine Own.W.aloadN ok d_prog_37_method_4_8 9 rfl rfl ?_
  refine Own.W.putF ok tb H (i := 0) (j := 3) (ty := (.object "com/example/latchwork/latchwork/engine/SyncState")) (w' := (.ref p)) rfl rfl 170 144 rfl rfl Via.refl (Or.inl (tb _ (List.mem_of_getElem? (i := 171) rfl))) (Own.Lay.of (nw_Unit tb) rfl) (by decide) rfl rfl d_prog_37_method_4_9 12 ((t, o_Unit (.ref nS) (.ref nR) (.int (0 : Int32)) (.ref p) (.int (0 : Int32)) (.int (0 : Int32))) :: cs) rfl (fun h1 H2 => ?_)
  refine Own.W.goto ok d_prog_37_method_4_12 66 ?_
  refine Own.W.aloadN ok d_prog_37_method_4_66 67 rfl rfl ?_
  refine Own.W.dup ok d_prog_37_method_4_67 68 rfl ?_
  refine Own.W.getF ok tb 168 rfl Via.refl (H2.fld (i := 0) (j := 2) rfl rfl) d_prog_37_method_4_68 71 ?_
  refine Own.W.iconst ok d_prog_37_method_4_71 72 (1 : Int32) rfl ?_
  refine Own.W.iaddV ok d_prog_37_method_4_72 73 (1 : Int32) (by decide) ?_
  refine Own.W.putF ok tb H2 (i := 0) (j := 2) (ty := .int) (w' := (.int (1 : Int32))) rfl rfl 168 144 rfl rfl Via.refl (Or.inl (tb _ (List.mem_of_getElem? (i := 169) rfl))) (Own.Lay.of (nw_Unit tb) rfl) (by decide) rfl rfl d_prog_37_method_4_73 76 ((t, o_Unit (.ref nS) (.ref nR) (.int (1 : Int32)) (.ref p) (.int (0 : Int32)) (.int (0 : Int32))) :: cs) rfl (fun h3 H4 => ?_)
  exact Own.W.vret ok d_prog_37_method_4_76 ⟨rfl, H4⟩
set_option maxRecDepth 65536 in
set_option maxHeartbeats 4000000 in
theorem c_setu (l : Launch) {Z : State} {a0 : Array Value} (tb : Own.Tb Z a0 tables_1) (p : Addr) (t : Addr) (b : Addr) (nP : Addr) (nC : Addr) (n : Int32) (u : Int32) (h : Heap) (cs : List (Addr × Own.Pc)) (H : Own.HS Z h ((p, o_Sync (.ref nP) (.ref nC) (.ref b) (.int n) (.int u) .null (.int (0 : Int32)) (.int (0 : Int32)) .null (.int (0 : Int32)) (.int (0 : Int32)) (.int (0 : Int32)) (.int (0 : Int32))) :: cs)) :
    Own.Con l Z (⟨"com/example/latchwork/latchwork/engine/SyncState", "setUnit", "(Lcom/example/latchwork/latchwork/engine/Unit;)V"⟩ : MethodName) prog_38_method_11_code 2 none ({ frames := 0, cells := 0, slots := 0, locals := 0 } : Room) #[(.ref p), (.ref t)] h (fun rr h' => rr = none ∧ Own.HS Z h' ((p, o_Sync (.ref nP) (.ref nC) (.ref b) (.int n) (.int u) .null (.int (0 : Int32)) (.int (0 : Int32)) (.ref t) (.int (0 : Int32)) (.int (0 : Int32)) (.int (0 : Int32)) (.int (0 : Int32))) :: cs)) := by
  refine Own.Con.of (plainFor_of_name (by first | (simp [plainName, overriddenIn]; done) | decide +kernel)) #[.val (.ref p), .val (.ref t)] (fun m => by first | rfl | (simp [entryFrame, mkF, argsToLocals, Value.category, maxLocals]; done)) (fun K ok => ?_)
  refine Own.W.aloadN ok d_prog_38_method_11_0 1 rfl rfl ?_
  refine Own.W.aloadN ok d_prog_38_method_11_1 2 rfl rfl ?_
  refine Own.W.putF ok tb H (i := 0) (j := 8) (ty := (.object "com/example/latchwork/latchwork/engine/Unit")) (w' := (.ref t)) rfl rfl 195 1 rfl rfl Via.refl (Or.inl (tb _ (List.mem_of_getElem? (i := 196) rfl))) (Own.Lay.of (nw_Sync tb) rfl) (by decide) rfl rfl d_prog_38_method_11_2 5 ((p, o_Sync (.ref nP) (.ref nC) (.ref b) (.int n) (.int u) .null (.int (0 : Int32)) (.int (0 : Int32)) (.ref t) (.int (0 : Int32)) (.int (0 : Int32)) (.int (0 : Int32)) (.int (0 : Int32))) :: cs) rfl (fun h1 H2 => ?_)
  exact Own.W.vret ok d_prog_38_method_11_5 ⟨rfl, H2⟩
set_option maxRecDepth 65536 in
set_option maxHeartbeats 4000000 in
theorem c_fs (l : Launch) {Z : State} {a0 : Array Value} (tb : Own.Tb Z a0 tables_1) (p : Addr) (b : Addr) (nP : Addr) (nC : Addr) (nS : Addr) (nR : Addr) (n : Int32) (u : Int32) (h : Heap) (cs : List (Addr × Own.Pc)) (H : Own.HS Z h ((p, o_Sync (.ref nP) (.ref nC) (.ref b) (.int n) (.int u) .null (.int (0 : Int32)) (.int (0 : Int32)) .null (.int (0 : Int32)) (.int (0 : Int32)) (.int (0 : Int32)) (.int (0 : Int32))) :: cs)) (SN : Sta Z Z.heap "com/example/latchwork/latchwork/engine/SyncList" "NONE" "[Lcom/example/latchwork/latchwork/engine/SyncState;" (.ref nS)) (SR : Sta Z Z.heap "com/example/latchwork/latchwork/engine/Unit" "NO_RUNS" "[Ljava/lang/Object;" (.ref nR)) :
    Own.Con l Z (⟨"com/example/latchwork/latchwork/engine/Unit", "forSync", "(Lcom/example/latchwork/latchwork/engine/SyncState;)Lcom/example/latchwork/latchwork/engine/Unit;"⟩ : MethodName) prog_47_method_3_code 2 (some (.object "com/example/latchwork/latchwork/engine/Unit")) ({ frames := 3, cells := 1, slots := 12, locals := 60 } : Room) #[(.ref p)] h (fun rr h' => ∃ (t : Addr), rr = some (.ref t) ∧ Own.HS Z h' ((p, o_Sync (.ref nP) (.ref nC) (.ref b) (.int n) (.int u) .null (.int (0 : Int32)) (.int (0 : Int32)) (.ref t) (.int (0 : Int32)) (.int (0 : Int32)) (.int (0 : Int32)) (.int (0 : Int32))) :: (t, o_Unit (.ref nS) (.ref nR) (.int (1 : Int32)) (.ref p) (.int (0 : Int32)) (.int (1 : Int32))) :: cs)) := by
  refine Own.Con.of (plainFor_of_name (by first | (simp [plainName, overriddenIn]; done) | decide +kernel)) #[.val (.ref p), .unset] (fun m => by first | rfl | (simp [entryFrame, mkF, argsToLocals, Value.category, maxLocals]; done)) (fun K ok => ?_)
  refine Own.W.new ok tb H 143 144 141 rfl rfl rfl (nw_Unit tb) d_prog_47_method_3_0 1 12 3 (fun a1 h2 H3 => ?_)
  show Own.W l Z _ K _ h2 1 12 3 #[.val (.ref p), .unset] [(.ref a1)]
  refine Own.W.dup ok d_prog_47_method_3_3 4 rfl ?_
  refine Own.W.callI ok tb (a := a1) (argsL := []) (rest := [(.ref a1)]) 145 146 141 147 rfl rfl rfl rfl d_prog_47_method_3_4 pd_1 (c_uni l tb a1 nS nR h2 ((p, o_Sync (.ref nP) (.ref nC) (.ref b) (.int n) (.int u) .null (.int (0 : Int32)) (.int (0 : Int32)) .null (.int (0 : Int32)) (.int (0 : Int32)) (.int (0 : Int32)) (.int (0 : Int32))) :: cs) H3 SN SR) 1 1 12 7 ?_
  rintro _ h4 ⟨rfl, H5⟩
  show Own.W l Z _ K _ h4 1 12 7 #[.val (.ref p), .unset] [(.ref a1)]
  refine Own.W.astoreN ok d_prog_47_method_3_7 8 #[.val (.ref p), .val (.ref a1)] rfl rfl ?_
  refine Own.W.aloadN ok d_prog_47_method_3_8 9 rfl rfl ?_
  refine Own.W.aloadN ok d_prog_47_method_3_9 10 rfl rfl ?_
  refine Own.W.callU ok tb (a := a1) (argsL := [(.ref p)]) (rest := []) 162 164 166 165 167 151 163 rfl rfl rfl rfl rfl rfl rfl (H5.exa (i := 0) rfl) d_prog_47_method_3_10 pd_12 (c_ads l tb a1 p nS nR h4 ((p, o_Sync (.ref nP) (.ref nC) (.ref b) (.int n) (.int u) .null (.int (0 : Int32)) (.int (0 : Int32)) .null (.int (0 : Int32)) (.int (0 : Int32)) (.int (0 : Int32)) (.int (0 : Int32))) :: cs) H5) 0 1 12 13 ?_
  rintro _ h6 ⟨rfl, H7⟩
  show Own.W l Z _ K _ h6 1 12 13 #[.val (.ref p), .val (.ref a1)] []
  refine Own.W.aloadN ok d_prog_47_method_3_13 14 rfl rfl ?_
  refine Own.W.aloadN ok d_prog_47_method_3_14 15 rfl rfl ?_
  refine Own.W.callV ok tb (a := p) (argsL := []) (rest := [(.ref a1)]) 172 173 175 174 176 2 rfl rfl rfl rfl rfl rfl (notFace_of_selects (args := #[]) (mvT ok.2.1 (tb _ (List.mem_of_getElem? (i := 175) rfl)))) (H7.exa (i := 1) rfl) d_prog_47_method_3_15 pd_13 (c_pend l tb p (0 : Int32) h6 (H7.fld (i := 1) (j := 6) rfl rfl)) 1 1 12 18 ?_
  rintro _ _ ⟨rfl, rfl⟩
  show Own.W l Z _ K _ h6 1 12 18 #[.val (.ref p), .val (.ref a1)] [(.int (0 : Int32)), (.ref a1)]
  refine Own.W.putF ok tb H7 (i := 0) (j := 4) (ty := .int) (w' := (.int (0 : Int32))) rfl rfl 179 144 rfl rfl Via.refl (Or.inl (tb _ (List.mem_of_getElem? (i := 180) rfl))) (Own.Lay.of (nw_Unit tb) rfl) (by decide) rfl rfl d_prog_47_method_3_18 21 ((a1, o_Unit (.ref nS) (.ref nR) (.int (1 : Int32)) (.ref p) (.int (0 : Int32)) (.int (0 : Int32))) :: (p, o_Sync (.ref nP) (.ref nC) (.ref b) (.int n) (.int u) .null (.int (0 : Int32)) (.int (0 : Int32)) .null (.int (0 : Int32)) (.int (0 : Int32)) (.int (0 : Int32)) (.int (0 : Int32))) :: cs) rfl (fun h8 H9 => ?_)
  refine Own.W.aloadN ok d_prog_47_method_3_21 22 rfl rfl ?_
  refine Own.W.aloadN ok d_prog_47_method_3_22 23 rfl rfl ?_
  refine Own.W.callV ok tb (a := p) (argsL := []) (rest := [(.ref a1)]) 181 182 184 183 185 2 rfl rfl rfl rfl rfl rfl (notFace_of_selects (args := #[]) (mvT ok.2.1 (tb _ (List.mem_of_getElem? (i := 184) rfl)))) (H9.exa (i := 1) rfl) d_prog_47_method_3_23 pd_9 (c_ready l tb p (0 : Int32) h8 (H9.fld (i := 1) (j := 7) rfl rfl) (Or.inl rfl)) 1 1 12 26 ?_
  rintro _ _ ⟨rfl, rfl⟩
  show Own.W l Z _ K _ h8 1 12 26 #[.val (.ref p), .val (.ref a1)] [(.int (0 : Int32)), (.ref a1)]
  refine Own.W.ifT ok d_prog_47_method_3_26 33 (by decide : (0 : Int32) = (0 : Int32)) ?_
  refine Own.W.iconst ok d_prog_47_method_3_33 34 (1 : Int32) rfl ?_
  refine Own.W.putF ok tb H9 (i := 0) (j := 5) (ty := .int) (w' := (.int (1 : Int32))) rfl rfl 188 144 rfl rfl Via.refl (Or.inl (tb _ (List.mem_of_getElem? (i := 189) rfl))) (Own.Lay.of (nw_Unit tb) rfl) (by decide) rfl rfl d_prog_47_method_3_34 37 ((a1, o_Unit (.ref nS) (.ref nR) (.int (1 : Int32)) (.ref p) (.int (0 : Int32)) (.int (1 : Int32))) :: (p, o_Sync (.ref nP) (.ref nC) (.ref b) (.int n) (.int u) .null (.int (0 : Int32)) (.int (0 : Int32)) .null (.int (0 : Int32)) (.int (0 : Int32)) (.int (0 : Int32)) (.int (0 : Int32))) :: cs) rfl (fun h10 H11 => ?_)
  refine Own.W.aloadN ok d_prog_47_method_3_37 38 rfl rfl ?_
  refine Own.W.aloadN ok d_prog_47_method_3_38 39 rfl rfl ?_
  have H12 : Own.HS Z h10 ((p, o_Sync (.ref nP) (.ref nC) (.ref b) (.int n) (.int u) .null (.int (0 : Int32)) (.int (0 : Int32)) .null (.int (0 : Int32)) (.int (0 : Int32)) (.int (0 : Int32)) (.int (0 : Int32))) :: (a1, o_Unit (.ref nS) (.ref nR) (.int (1 : Int32)) (.ref p) (.int (0 : Int32)) (.int (1 : Int32))) :: cs) := H11.pull 1 _ rfl rfl
  refine Own.W.callV ok tb (a := p) (argsL := [(.ref a1)]) (rest := []) 190 191 193 192 194 2 rfl rfl rfl rfl rfl rfl (notFace_of_selects (args := #[]) (mvT ok.2.1 (tb _ (List.mem_of_getElem? (i := 193) rfl)))) (H12.exa (i := 0) rfl) d_prog_47_method_3_39 pd_14 (c_setu l tb p a1 b nP nC n u h10 ((a1, o_Unit (.ref nS) (.ref nR) (.int (1 : Int32)) (.ref p) (.int (0 : Int32)) (.int (1 : Int32))) :: cs) H12) 0 1 12 42 ?_
  rintro _ h13 ⟨rfl, H14⟩
  show Own.W l Z _ K _ h13 1 12 42 #[.val (.ref p), .val (.ref a1)] []
  refine Own.W.aloadN ok d_prog_47_method_3_42 43 rfl rfl ?_
  exact Own.W.aret ok d_prog_47_method_3_43 ⟨a1, rfl, H14⟩
set_option maxRecDepth 65536 in
set_option maxHeartbeats 4000000 in
theorem c_cr (l : Launch) {Z : State} {a0 : Array Value} (tb : Own.Tb Z a0 tables_1) (t : Addr) (p : Addr) (nS : Addr) (nR : Addr) (h : Heap) (cs : List (Addr × Own.Pc)) (H : Own.HS Z h ((t, o_Unit (.ref nS) (.ref nR) (.int (1 : Int32)) (.ref p) (.int (0 : Int32)) (.int (1 : Int32))) :: cs)) :
    Own.Con l Z (⟨"com/example/latchwork/latchwork/engine/Unit", "countReady", "()V"⟩ : MethodName) prog_47_method_21_code 1 none ({ frames := 0, cells := 0, slots := 0, locals := 0 } : Room) #[(.ref t)] h (fun rr h' => rr = none ∧ Own.HS Z h' ((t, o_Unit (.ref nS) (.ref nR) (.int (1 : Int32)) (.ref p) (.int (0 : Int32)) (.int (0 : Int32))) :: cs)) := by
  refine Own.Con.of (plainFor_of_name (by first | (simp [plainName, overriddenIn]; done) | decide +kernel)) #[.val (.ref t)] (fun m => by first | rfl | (simp [entryFrame, mkF, argsToLocals, Value.category, maxLocals]; done)) (fun K ok => ?_)
  refine Own.W.aloadN ok d_prog_47_method_21_0 1 rfl rfl ?_
  refine Own.W.dup ok d_prog_47_method_21_1 2 rfl ?_
  refine Own.W.getF ok tb 188 rfl Via.refl (H.fld (i := 0) (j := 5) rfl rfl) d_prog_47_method_21_2 5 ?_
  refine Own.W.iconst ok d_prog_47_method_21_5 6 (1 : Int32) rfl ?_
  refine Own.W.isubV ok d_prog_47_method_21_6 7 (0 : Int32) (by decide) ?_
  refine Own.W.putF ok tb H (i := 0) (j := 5) (ty := .int) (w' := (.int (0 : Int32))) rfl rfl 188 144 rfl rfl Via.refl (Or.inl (tb _ (List.mem_of_getElem? (i := 189) rfl))) (Own.Lay.of (nw_Unit tb) rfl) (by decide) rfl rfl d_prog_47_method_21_7 10 ((t, o_Unit (.ref nS) (.ref nR) (.int (1 : Int32)) (.ref p) (.int (0 : Int32)) (.int (0 : Int32))) :: cs) rfl (fun h1 H2 => ?_)
  exact Own.W.vret ok d_prog_47_method_21_10 ⟨rfl, H2⟩
set_option maxRecDepth 65536 in
set_option maxHeartbeats 4000000 in
theorem c_sr (l : Launch) {Z : State} {a0 : Array Value} (tb : Own.Tb Z a0 tables_1) (p : Addr) (t : Addr) (b : Addr) (nP : Addr) (nC : Addr) (nS : Addr) (nR : Addr) (n : Int32) (u : Int32) (h : Heap) (cs : List (Addr × Own.Pc)) (H : Own.HS Z h ((p, o_Sync (.ref nP) (.ref nC) (.ref b) (.int n) (.int u) .null (.int (0 : Int32)) (.int (0 : Int32)) (.ref t) (.int (0 : Int32)) (.int (0 : Int32)) (.int (0 : Int32)) (.int (0 : Int32))) :: (t, o_Unit (.ref nS) (.ref nR) (.int (1 : Int32)) (.ref p) (.int (0 : Int32)) (.int (1 : Int32))) :: cs)) :
    Own.Con l Z (⟨"com/example/latchwork/latchwork/engine/SyncState", "setReady", "()V"⟩ : MethodName) prog_38_method_22_code 1 none ({ frames := 1, cells := 0, slots := 0, locals := 16 } : Room) #[(.ref p)] h (fun rr h' => rr = none ∧ Own.HS Z h' ((p, o_Sync (.ref nP) (.ref nC) (.ref b) (.int n) (.int u) .null (.int (0 : Int32)) (.int (1 : Int32)) (.ref t) (.int (0 : Int32)) (.int (0 : Int32)) (.int (0 : Int32)) (.int (0 : Int32))) :: (t, o_Unit (.ref nS) (.ref nR) (.int (1 : Int32)) (.ref p) (.int (0 : Int32)) (.int (0 : Int32))) :: cs)) := by
  refine Own.Con.of (plainFor_of_name (by first | (simp [plainName, overriddenIn]; done) | decide +kernel)) #[.val (.ref p)] (fun m => by first | rfl | (simp [entryFrame, mkF, argsToLocals, Value.category, maxLocals]; done)) (fun K ok => ?_)
  refine Own.W.aloadN ok d_prog_38_method_22_0 1 rfl rfl ?_
  refine Own.W.iconst ok d_prog_38_method_22_1 2 (1 : Int32) rfl ?_
  refine Own.W.putF ok tb H (i := 0) (j := 7) (ty := .boolean) (w' := (.int (1 : Int32))) rfl rfl 186 1 rfl rfl Via.refl (Or.inl (tb _ (List.mem_of_getElem? (i := 187) rfl))) (Own.Lay.of (nw_Sync tb) rfl) (by decide) rfl rfl d_prog_38_method_22_2 5 ((p, o_Sync (.ref nP) (.ref nC) (.ref b) (.int n) (.int u) .null (.int (0 : Int32)) (.int (1 : Int32)) (.ref t) (.int (0 : Int32)) (.int (0 : Int32)) (.int (0 : Int32)) (.int (0 : Int32))) :: (t, o_Unit (.ref nS) (.ref nR) (.int (1 : Int32)) (.ref p) (.int (0 : Int32)) (.int (1 : Int32))) :: cs) rfl (fun h1 H2 => ?_)
  refine Own.W.aloadN ok d_prog_38_method_22_5 6 rfl rfl ?_
  refine Own.W.getF ok tb 195 rfl Via.refl (H2.fld (i := 0) (j := 8) rfl rfl) d_prog_38_method_22_6 9 ?_
  have H3 : Own.HS Z h1 ((t, o_Unit (.ref nS) (.ref nR) (.int (1 : Int32)) (.ref p) (.int (0 : Int32)) (.int (1 : Int32))) :: (p, o_Sync (.ref nP) (.ref nC) (.ref b) (.int n) (.int u) .null (.int (0 : Int32)) (.int (1 : Int32)) (.ref t) (.int (0 : Int32)) (.int (0 : Int32)) (.int (0 : Int32)) (.int (0 : Int32))) :: cs) := H2.pull 1 _ rfl rfl
  refine Own.W.callV ok tb (a := t) (argsL := []) (rest := []) 202 203 205 204 206 141 rfl rfl rfl rfl rfl rfl (notFace_of_selects (args := #[]) (mvT ok.2.1 (tb _ (List.mem_of_getElem? (i := 205) rfl)))) (H3.exa (i := 0) rfl) d_prog_38_method_22_9 pd_1 (c_cr l tb t p nS nR h1 ((p, o_Sync (.ref nP) (.ref nC) (.ref b) (.int n) (.int u) .null (.int (0 : Int32)) (.int (1 : Int32)) (.ref t) (.int (0 : Int32)) (.int (0 : Int32)) (.int (0 : Int32)) (.int (0 : Int32))) :: cs) H3) 0 0 0 12 ?_
  rintro _ h4 ⟨rfl, H5⟩
  show Own.W l Z _ K _ h4 0 0 12 #[.val (.ref p)] []
  exact Own.W.vret ok d_prog_38_method_22_12 ⟨rfl, (H5.pull 1 ((p, o_Sync (.ref nP) (.ref nC) (.ref b) (.int n) (.int u) .null (.int (0 : Int32)) (.int (1 : Int32)) (.ref t) (.int (0 : Int32)) (.int (0 : Int32)) (.int (0 : Int32)) (.int (0 : Int32))) :: (t, o_Unit (.ref nS) (.ref nR) (.int (1 : Int32)) (.ref p) (.int (0 : Int32)) (.int (0 : Int32))) :: cs) rfl rfl)⟩
set_option maxRecDepth 65536 in
set_option maxHeartbeats 4000000 in
theorem c_wh1 (l : Launch) {Z : State} {a0 : Array Value} (tb : Own.Tb Z a0 tables_1) (p : Addr) (b : Addr) (t : Addr) (d : Addr) (nP : Addr) (nC : Addr) (n : Int32) (u : Int32) (ec : Int32) (sz : Int32) (h : Heap) (cs : List (Addr × Own.Pc)) (H : Own.HS Z h ((p, o_Sync (.ref nP) (.ref nC) (.ref b) (.int n) (.int u) .null (.int (0 : Int32)) (.int (1 : Int32)) (.ref t) (.int (0 : Int32)) (.int (0 : Int32)) (.int ec) (.int (0 : Int32))) :: (b, o_AL (.int sz) (.ref d) (.int sz)) :: cs)) (hq : ec = sz) :
    Own.Con l Z (⟨"com/example/latchwork/latchwork/engine/SyncState", "isWhole", "()Z"⟩ : MethodName) prog_38_method_25_code 1 (some .boolean) ({ frames := 1, cells := 0, slots := 0, locals := 16 } : Room) #[(.ref p)] h (fun rr h' => rr = some (.int (1 : Int32)) ∧ h = h') := by
  refine Own.Con.of (plainFor_of_name (by first | (simp [plainName, overriddenIn]; done) | decide +kernel)) #[.val (.ref p)] (fun m => by first | rfl | (simp [entryFrame, mkF, argsToLocals, Value.category, maxLocals]; done)) (fun K ok => ?_)
  refine Own.W.aloadN ok d_prog_38_method_25_0 1 rfl rfl ?_
  refine Own.W.getF ok tb 186 rfl Via.refl (H.fld (i := 0) (j := 7) rfl rfl) d_prog_38_method_25_1 4 ?_
  refine Own.W.ifF ok d_prog_38_method_25_4 7 (by decide : ¬ ((1 : Int32) = (0 : Int32))) ?_
  refine Own.W.aloadN ok d_prog_38_method_25_7 8 rfl rfl ?_
  refine Own.W.getF ok tb 177 rfl Via.refl (H.fld (i := 0) (j := 6) rfl rfl) d_prog_38_method_25_8 11 ?_
  refine Own.W.ifF ok d_prog_38_method_25_11 14 (by decide : (0 : Int32) = (0 : Int32)) ?_
  refine Own.W.aloadN ok d_prog_38_method_25_14 15 rfl rfl ?_
  refine Own.W.getF ok tb 212 rfl Via.refl (H.fld (i := 0) (j := 9) rfl rfl) d_prog_38_method_25_15 18 ?_
  refine Own.W.aloadN ok d_prog_38_method_25_18 19 rfl rfl ?_
  refine Own.W.getF ok tb 214 rfl Via.refl (H.fld (i := 0) (j := 10) rfl rfl) d_prog_38_method_25_19 22 ?_
  refine Own.W.icmpF ok d_prog_38_method_25_22 25 (by decide : (0 : Int32) = (0 : Int32)) ?_
  refine Own.W.aloadN ok d_prog_38_method_25_25 26 rfl rfl ?_
  refine Own.W.getF ok tb 216 rfl Via.refl (H.fld (i := 0) (j := 11) rfl rfl) d_prog_38_method_25_26 29 ?_
  refine Own.W.aloadN ok d_prog_38_method_25_29 30 rfl rfl ?_
  refine Own.W.getF ok tb 24 rfl Via.refl (H.fld (i := 0) (j := 2) rfl rfl) d_prog_38_method_25_30 33 ?_
  refine Own.W.callF ok tb (a := b) (argsL := []) (rest := [(.int ec)]) 218 219 221 222 225 51 220 223 224 rfl rfl rfl rfl rfl rfl rfl rfl rfl 81 rfl (H.exa (i := 1) rfl) d_prog_38_method_25_33 pd_13 (c_alsize l tb b sz h (H.fld (i := 1) (j := 2) rfl rfl)) 1 0 0 38 ?_
  rintro _ _ ⟨rfl, rfl⟩
  show Own.W l Z _ K _ h 0 0 38 #[.val (.ref p)] [(.int sz), (.int ec)]
  refine Own.W.icmpF ok d_prog_38_method_25_38 41 hq ?_
  refine Own.W.iconst ok d_prog_38_method_25_41 42 (1 : Int32) rfl ?_
  refine Own.W.goto ok d_prog_38_method_25_42 46 ?_
  exact Own.W.iret ok d_prog_38_method_25_46 rfl ⟨rfl, rfl⟩
set_option maxRecDepth 65536 in
set_option maxHeartbeats 4000000 in
theorem c_wh0 (l : Launch) {Z : State} {a0 : Array Value} (tb : Own.Tb Z a0 tables_1) (p : Addr) (b : Addr) (t : Addr) (d : Addr) (nP : Addr) (nC : Addr) (n : Int32) (u : Int32) (ec : Int32) (sz : Int32) (h : Heap) (cs : List (Addr × Own.Pc)) (H : Own.HS Z h ((p, o_Sync (.ref nP) (.ref nC) (.ref b) (.int n) (.int u) .null (.int (0 : Int32)) (.int (1 : Int32)) (.ref t) (.int (0 : Int32)) (.int (0 : Int32)) (.int ec) (.int (0 : Int32))) :: (b, o_AL (.int sz) (.ref d) (.int sz)) :: cs)) (hq : ¬ (ec = sz)) :
    Own.Con l Z (⟨"com/example/latchwork/latchwork/engine/SyncState", "isWhole", "()Z"⟩ : MethodName) prog_38_method_25_code 1 (some .boolean) ({ frames := 1, cells := 0, slots := 0, locals := 16 } : Room) #[(.ref p)] h (fun rr h' => rr = some (.int (0 : Int32)) ∧ h = h') := by
  refine Own.Con.of (plainFor_of_name (by first | (simp [plainName, overriddenIn]; done) | decide +kernel)) #[.val (.ref p)] (fun m => by first | rfl | (simp [entryFrame, mkF, argsToLocals, Value.category, maxLocals]; done)) (fun K ok => ?_)
  refine Own.W.aloadN ok d_prog_38_method_25_0 1 rfl rfl ?_
  refine Own.W.getF ok tb 186 rfl Via.refl (H.fld (i := 0) (j := 7) rfl rfl) d_prog_38_method_25_1 4 ?_
  refine Own.W.ifF ok d_prog_38_method_25_4 7 (by decide : ¬ ((1 : Int32) = (0 : Int32))) ?_
  refine Own.W.aloadN ok d_prog_38_method_25_7 8 rfl rfl ?_
  refine Own.W.getF ok tb 177 rfl Via.refl (H.fld (i := 0) (j := 6) rfl rfl) d_prog_38_method_25_8 11 ?_
  refine Own.W.ifF ok d_prog_38_method_25_11 14 (by decide : (0 : Int32) = (0 : Int32)) ?_
  refine Own.W.aloadN ok d_prog_38_method_25_14 15 rfl rfl ?_
  refine Own.W.getF ok tb 212 rfl Via.refl (H.fld (i := 0) (j := 9) rfl rfl) d_prog_38_method_25_15 18 ?_
  refine Own.W.aloadN ok d_prog_38_method_25_18 19 rfl rfl ?_
  refine Own.W.getF ok tb 214 rfl Via.refl (H.fld (i := 0) (j := 10) rfl rfl) d_prog_38_method_25_19 22 ?_
  refine Own.W.icmpF ok d_prog_38_method_25_22 25 (by decide : (0 : Int32) = (0 : Int32)) ?_
  refine Own.W.aloadN ok d_prog_38_method_25_25 26 rfl rfl ?_
  refine Own.W.getF ok tb 216 rfl Via.refl (H.fld (i := 0) (j := 11) rfl rfl) d_prog_38_method_25_26 29 ?_
  refine Own.W.aloadN ok d_prog_38_method_25_29 30 rfl rfl ?_
  refine Own.W.getF ok tb 24 rfl Via.refl (H.fld (i := 0) (j := 2) rfl rfl) d_prog_38_method_25_30 33 ?_
  refine Own.W.callF ok tb (a := b) (argsL := []) (rest := [(.int ec)]) 218 219 221 222 225 51 220 223 224 rfl rfl rfl rfl rfl rfl rfl rfl rfl 81 rfl (H.exa (i := 1) rfl) d_prog_38_method_25_33 pd_13 (c_alsize l tb b sz h (H.fld (i := 1) (j := 2) rfl rfl)) 1 0 0 38 ?_
  rintro _ _ ⟨rfl, rfl⟩
  show Own.W l Z _ K _ h 0 0 38 #[.val (.ref p)] [(.int sz), (.int ec)]
  refine Own.W.icmpT ok d_prog_38_method_25_38 45 hq ?_
  refine Own.W.iconst ok d_prog_38_method_25_45 46 (0 : Int32) rfl ?_
  exact Own.W.iret ok d_prog_38_method_25_46 rfl ⟨rfl, rfl⟩
set_option maxRecDepth 65536 in
set_option maxHeartbeats 4000000 in
theorem c_eac (l : Launch) {Z : State} {a0 : Array Value} (tb : Own.Tb Z a0 tables_1) (c : Addr) (p : Addr) (b : Addr) (t : Addr) (nP : Addr) (nC : Addr) (eL : Addr) (n : Int32) (u : Int32) (m : Int32) (ec : Int32) (ec2 : Int32) (h : Heap) (cs : List (Addr × Own.Pc)) (H : Own.HS Z h ((c, o_Sync (.ref nP) (.ref nC) (.ref eL) (.int m) (.int (0 : Int32)) (.ref p) (.int (0 : Int32)) (.int (0 : Int32)) .null (.int (0 : Int32)) (.int (0 : Int32)) (.int (0 : Int32)) (.int (0 : Int32))) :: (p, o_Sync (.ref nP) (.ref nC) (.ref b) (.int n) (.int u) .null (.int (0 : Int32)) (.int (1 : Int32)) (.ref t) (.int (0 : Int32)) (.int (0 : Int32)) (.int ec) (.int (0 : Int32))) :: cs)) (hec : ec + (1 : Int32) = ec2) :
    Own.Con l Z (⟨"com/example/latchwork/latchwork/engine/SyncState", "endAsChild", "()V"⟩ : MethodName) prog_38_method_26_code 1 none ({ frames := 0, cells := 0, slots := 0, locals := 0 } : Room) #[(.ref c)] h (fun rr h' => rr = none ∧ Own.HS Z h' ((c, o_Sync (.ref nP) (.ref nC) (.ref eL) (.int m) (.int (0 : Int32)) (.ref p) (.int (0 : Int32)) (.int (0 : Int32)) .null (.int (0 : Int32)) (.int (0 : Int32)) (.int (0 : Int32)) (.int (1 : Int32))) :: (p, o_Sync (.ref nP) (.ref nC) (.ref b) (.int n) (.int u) .null (.int (0 : Int32)) (.int (1 : Int32)) (.ref t) (.int (0 : Int32)) (.int (0 : Int32)) (.int ec2) (.int (0 : Int32))) :: cs)) := by
  refine Own.Con.of (plainFor_of_name (by first | (simp [plainName, overriddenIn]; done) | decide +kernel)) #[.val (.ref c)] (fun m => by first | rfl | (simp [entryFrame, mkF, argsToLocals, Value.category, maxLocals]; done)) (fun K ok => ?_)
  refine Own.W.aloadN ok d_prog_38_method_26_0 1 rfl rfl ?_
  refine Own.W.iconst ok d_prog_38_method_26_1 2 (1 : Int32) rfl ?_
  refine Own.W.putF ok tb H (i := 0) (j := 12) (ty := .boolean) (w' := (.int (1 : Int32))) rfl rfl 231 1 rfl rfl Via.refl (Or.inl (tb _ (List.mem_of_getElem? (i := 232) rfl))) (Own.Lay.of (nw_Sync tb) rfl) (by decide) rfl rfl d_prog_38_method_26_2 5 ((c, o_Sync (.ref nP) (.ref nC) (.ref eL) (.int m) (.int (0 : Int32)) (.ref p) (.int (0 : Int32)) (.int (0 : Int32)) .null (.int (0 : Int32)) (.int (0 : Int32)) (.int (0 : Int32)) (.int (1 : Int32))) :: (p, o_Sync (.ref nP) (.ref nC) (.ref b) (.int n) (.int u) .null (.int (0 : Int32)) (.int (1 : Int32)) (.ref t) (.int (0 : Int32)) (.int (0 : Int32)) (.int ec) (.int (0 : Int32))) :: cs) rfl (fun h1 H2 => ?_)
  refine Own.W.aloadN ok d_prog_38_method_26_5 6 rfl rfl ?_
  refine Own.W.getF ok tb 35 rfl Via.refl (H2.fld (i := 0) (j := 5) rfl rfl) d_prog_38_method_26_6 9 ?_
  refine Own.W.dup ok d_prog_38_method_26_9 10 rfl ?_
  refine Own.W.getF ok tb 216 rfl Via.refl (H2.fld (i := 1) (j := 11) rfl rfl) d_prog_38_method_26_10 13 ?_
  refine Own.W.iconst ok d_prog_38_method_26_13 14 (1 : Int32) rfl ?_
  refine Own.W.iaddV ok d_prog_38_method_26_14 15 ec2 hec ?_
  refine Own.W.putF ok tb H2 (i := 1) (j := 11) (ty := .int) (w' := (.int ec2)) rfl rfl 216 1 rfl rfl Via.refl (Or.inl (tb _ (List.mem_of_getElem? (i := 217) rfl))) (Own.Lay.of (nw_Sync tb) rfl) (by decide) rfl rfl d_prog_38_method_26_15 18 ((c, o_Sync (.ref nP) (.ref nC) (.ref eL) (.int m) (.int (0 : Int32)) (.ref p) (.int (0 : Int32)) (.int (0 : Int32)) .null (.int (0 : Int32)) (.int (0 : Int32)) (.int (0 : Int32)) (.int (1 : Int32))) :: (p, o_Sync (.ref nP) (.ref nC) (.ref b) (.int n) (.int u) .null (.int (0 : Int32)) (.int (1 : Int32)) (.ref t) (.int (0 : Int32)) (.int (0 : Int32)) (.int ec2) (.int (0 : Int32))) :: cs) rfl (fun h3 H4 => ?_)
  exact Own.W.vret ok d_prog_38_method_26_18 ⟨rfl, H4⟩
set_option maxRecDepth 65536 in
set_option maxHeartbeats 4000000 in
theorem c_law (l : Launch) {Z : State} {a0 : Array Value} (tb : Own.Tb Z a0 tables_1) (u0 : Int32) (u1 : Int32) (u2 : Int32) (u3 : Int32) (nP : Addr) (nC : Addr) (eL : Addr) (eA : Addr) (nS : Addr) (nR : Addr) (mr : Addr) (ce : Cell) (h : Heap) (cs : List (Addr × Own.Pc)) (H : Own.HS Z h (cs)) (SP : Sta Z Z.heap "com/example/latchwork/latchwork/engine/SyncState" "NO_PARTS" "[Lcom/example/latchwork/latchwork/engine/SyncState$Part;" (.ref nP)) (SC : Sta Z Z.heap "com/example/latchwork/latchwork/model/Changes" "NONE" "Lcom/example/latchwork/latchwork/model/Changes;" (.ref nC)) (SE : Sta Z Z.heap "java/util/ImmutableCollections" "EMPTY_LIST" "Ljava/util/ImmutableCollections$ListN;" (.ref eL)) (SN : Sta Z Z.heap "com/example/latchwork/latchwork/engine/SyncList" "NONE" "[Lcom/example/latchwork/latchwork/engine/SyncState;" (.ref nS)) (SR : Sta Z Z.heap "com/example/latchwork/latchwork/engine/Unit" "NO_RUNS" "[Ljava/lang/Object;" (.ref nR)) (M : Own.Mr Z "[Ljava/lang/Object;" mr) (FE : Fld Z Z.heap eL "java/util/ImmutableCollections$ListN" "elements" "[Ljava/lang/Object;" (.ref eA)) (EE : Exa Z Z.heap eL "java/util/ImmutableCollections$ListN") (AE : RoadKit.Arr Z Z.heap eA ce (.object "java/lang/Object")) (he : ce.slots.size.toInt32 = (0 : Int32)) :
    Own.Con l Z x code maxLocals ret room_1 #[(.int u0), (.int u1), (.int u2), (.int u3)] h (fun rr h' => rr = some (.int (1 : Int32)) ∧ True) := by
  refine Own.Con.of (plainFor_of_name (by first | (simp [plainName, overriddenIn]; done) | decide +kernel)) #[.val (.int u0), .val (.int u1), .val (.int u2), .val (.int u3), .unset, .unset, .unset, .unset, .unset, .unset, .unset] (fun m => by first | rfl | (simp [entryFrame, mkF, argsToLocals, Value.category, maxLocals]; done)) (fun K ok => ?_)
  refine Own.W.iloadN ok at_0 1 rfl ?_
  refine Own.W.iconst ok at_1 2 (1 : Int32) rfl ?_
  refine Own.W.iand ok at_2 3 ?_
  refine Own.W.iff ok at_3 10 6 (fun (hc1 : (u3 &&& (1 : Int32)) = (0 : Int32)) => ?_) (fun (hc1 : ¬ ((u3 &&& (1 : Int32)) = (0 : Int32))) => ?_)
  · refine Own.W.iconst ok at_10 11 (0 : Int32) rfl ?_
    refine Own.W.istore ok at_11 13 #[.val (.int u0), .val (.int u1), .val (.int u2), .val (.int u3), .val (.int (0 : Int32)), .unset, .unset, .unset, .unset, .unset, .unset] rfl ?_
    refine Own.W.iloadN ok at_13 14 rfl ?_
    refine Own.W.iconst ok at_14 15 (2 : Int32) rfl ?_
    refine Own.W.iand ok at_15 16 ?_
    have J2 : ∀ (u : Int32) (hu : u = (0 : Int32) ∨ u = (1 : Int32)), Own.W l Z room_1 K (fun rr h' => rr = some (.int (1 : Int32)) ∧ True) h 0 0 24 #[.val (.int u0), .val (.int u1), .val (.int u2), .val (.int u3), .val (.int (0 : Int32)), .unset, .unset, .unset, .unset, .unset, .unset] [(.int u)] := by
      intro u hu
      refine Own.W.istore ok at_24 26 #[.val (.int u0), .val (.int u1), .val (.int u2), .val (.int u3), .val (.int (0 : Int32)), .val (.int u), .unset, .unset, .unset, .unset, .unset] rfl ?_
      refine Own.W.new ok tb H 0 1 2 rfl rfl rfl (nw_Sync tb) at_26 1 16 29 (fun a3 h4 H5 => ?_)
      show Own.W l Z _ K _ h4 1 16 29 #[.val (.int u0), .val (.int u1), .val (.int u2), .val (.int u3), .val (.int (0 : Int32)), .val (.int u), .unset, .unset, .unset, .unset, .unset] [(.ref a3)]
      refine Own.W.dup ok at_29 30 rfl ?_
      refine Own.W.iloadN ok at_30 31 rfl ?_
      refine Own.W.iload ok at_31 33 rfl ?_
      refine Own.W.callI ok tb (a := a3) (argsL := [(.int u0), (.int u)]) (rest := [(.ref a3)]) 3 4 2 5 rfl rfl rfl rfl at_33 pd_15 (c_sini l tb a3 nP nC eL u0 u h4 (cs) H5 SP SC SE hu) 1 1 16 36 ?_
      rintro _ h6 ⟨rfl, H7⟩
      show Own.W l Z _ K _ h6 1 16 36 #[.val (.int u0), .val (.int u1), .val (.int u2), .val (.int u3), .val (.int (0 : Int32)), .val (.int u), .unset, .unset, .unset, .unset, .unset] [(.ref a3)]
      refine Own.W.astore ok at_36 38 #[.val (.int u0), .val (.int u1), .val (.int u2), .val (.int u3), .val (.int (0 : Int32)), .val (.int u), .val (.ref a3), .unset, .unset, .unset, .unset] rfl rfl ?_
      refine Own.W.new ok tb H7 0 1 2 rfl rfl rfl (nw_Sync tb) at_38 2 32 41 (fun a8 h9 H10 => ?_)
      show Own.W l Z _ K _ h9 2 32 41 #[.val (.int u0), .val (.int u1), .val (.int u2), .val (.int u3), .val (.int (0 : Int32)), .val (.int u), .val (.ref a3), .unset, .unset, .unset, .unset] [(.ref a8)]
      refine Own.W.dup ok at_41 42 rfl ?_
      refine Own.W.iloadN ok at_42 43 rfl ?_
      refine Own.W.iconst ok at_43 44 (0 : Int32) rfl ?_
      refine Own.W.callI ok tb (a := a8) (argsL := [(.int u1), (.int (0 : Int32))]) (rest := [(.ref a8)]) 3 4 2 5 rfl rfl rfl rfl at_44 pd_15 (c_sini l tb a8 nP nC eL u1 (0 : Int32) h9 ((a3, o_Sync (.ref nP) (.ref nC) (.ref eL) (.int u0) (.int u) .null (.int (0 : Int32)) (.int (0 : Int32)) .null (.int (0 : Int32)) (.int (0 : Int32)) (.int (0 : Int32)) (.int (0 : Int32))) :: cs) H10 SP SC SE (Or.inl rfl)) 1 2 32 47 ?_
      rintro _ h11 ⟨rfl, H12⟩
      show Own.W l Z _ K _ h11 2 32 47 #[.val (.int u0), .val (.int u1), .val (.int u2), .val (.int u3), .val (.int (0 : Int32)), .val (.int u), .val (.ref a3), .unset, .unset, .unset, .unset] [(.ref a8)]
      refine Own.W.astore ok at_47 49 #[.val (.int u0), .val (.int u1), .val (.int u2), .val (.int u3), .val (.int (0 : Int32)), .val (.int u), .val (.ref a3), .val (.ref a8), .unset, .unset, .unset] rfl rfl ?_
      refine Own.W.new ok tb H12 0 1 2 rfl rfl rfl (nw_Sync tb) at_49 3 48 52 (fun a13 h14 H15 => ?_)
      show Own.W l Z _ K _ h14 3 48 52 #[.val (.int u0), .val (.int u1), .val (.int u2), .val (.int u3), .val (.int (0 : Int32)), .val (.int u), .val (.ref a3), .val (.ref a8), .unset, .unset, .unset] [(.ref a13)]
      refine Own.W.dup ok at_52 53 rfl ?_
      refine Own.W.iloadN ok at_53 54 rfl ?_
      refine Own.W.iconst ok at_54 55 (0 : Int32) rfl ?_
      refine Own.W.callI ok tb (a := a13) (argsL := [(.int u2), (.int (0 : Int32))]) (rest := [(.ref a13)]) 3 4 2 5 rfl rfl rfl rfl at_55 pd_15 (c_sini l tb a13 nP nC eL u2 (0 : Int32) h14 ((a8, o_Sync (.ref nP) (.ref nC) (.ref eL) (.int u1) (.int (0 : Int32)) .null (.int (0 : Int32)) (.int (0 : Int32)) .null (.int (0 : Int32)) (.int (0 : Int32)) (.int (0 : Int32)) (.int (0 : Int32))) :: (a3, o_Sync (.ref nP) (.ref nC) (.ref eL) (.int u0) (.int u) .null (.int (0 : Int32)) (.int (0 : Int32)) .null (.int (0 : Int32)) (.int (0 : Int32)) (.int (0 : Int32)) (.int (0 : Int32))) :: cs) H15 SP SC SE (Or.inl rfl)) 1 3 48 58 ?_
      rintro _ h16 ⟨rfl, H17⟩
      show Own.W l Z _ K _ h16 3 48 58 #[.val (.int u0), .val (.int u1), .val (.int u2), .val (.int u3), .val (.int (0 : Int32)), .val (.int u), .val (.ref a3), .val (.ref a8), .unset, .unset, .unset] [(.ref a13)]
      refine Own.W.astore ok at_58 60 #[.val (.int u0), .val (.int u1), .val (.int u2), .val (.int u3), .val (.int (0 : Int32)), .val (.int u), .val (.ref a3), .val (.ref a8), .val (.ref a13), .unset, .unset] rfl rfl ?_
      refine Own.W.aload ok at_60 62 rfl rfl ?_
      refine Own.W.aload ok at_62 64 rfl rfl ?_
      have H18 : Own.HS Z h16 ((a8, o_Sync (.ref nP) (.ref nC) (.ref eL) (.int u1) (.int (0 : Int32)) .null (.int (0 : Int32)) (.int (0 : Int32)) .null (.int (0 : Int32)) (.int (0 : Int32)) (.int (0 : Int32)) (.int (0 : Int32))) :: (a13, o_Sync (.ref nP) (.ref nC) (.ref eL) (.int u2) (.int (0 : Int32)) .null (.int (0 : Int32)) (.int (0 : Int32)) .null (.int (0 : Int32)) (.int (0 : Int32)) (.int (0 : Int32)) (.int (0 : Int32))) :: (a3, o_Sync (.ref nP) (.ref nC) (.ref eL) (.int u0) (.int u) .null (.int (0 : Int32)) (.int (0 : Int32)) .null (.int (0 : Int32)) (.int (0 : Int32)) (.int (0 : Int32)) (.int (0 : Int32))) :: cs) := H17.pull 1 _ rfl rfl
      have H19 : Own.HS Z h16 ((a3, o_Sync (.ref nP) (.ref nC) (.ref eL) (.int u0) (.int u) .null (.int (0 : Int32)) (.int (0 : Int32)) .null (.int (0 : Int32)) (.int (0 : Int32)) (.int (0 : Int32)) (.int (0 : Int32))) :: (a8, o_Sync (.ref nP) (.ref nC) (.ref eL) (.int u1) (.int (0 : Int32)) .null (.int (0 : Int32)) (.int (0 : Int32)) .null (.int (0 : Int32)) (.int (0 : Int32)) (.int (0 : Int32)) (.int (0 : Int32))) :: (a13, o_Sync (.ref nP) (.ref nC) (.ref eL) (.int u2) (.int (0 : Int32)) .null (.int (0 : Int32)) (.int (0 : Int32)) .null (.int (0 : Int32)) (.int (0 : Int32)) (.int (0 : Int32)) (.int (0 : Int32))) :: cs) := H18.pull 2 _ rfl rfl
      refine Own.W.callV ok tb (a := a3) (argsL := [(.ref a8)]) (rest := []) 30 31 33 32 34 2 rfl rfl rfl rfl rfl rfl (notFace_of_selects (args := #[]) (mvT ok.2.1 (tb _ (List.mem_of_getElem? (i := 33) rfl)))) (H19.exa (i := 0) rfl) at_64 pd_12 (c_dp1 l tb a3 a8 nP nC eL eA ce u0 u u1 h16 ((a13, o_Sync (.ref nP) (.ref nC) (.ref eL) (.int u2) (.int (0 : Int32)) .null (.int (0 : Int32)) (.int (0 : Int32)) .null (.int (0 : Int32)) (.int (0 : Int32)) (.int (0 : Int32)) (.int (0 : Int32))) :: cs) H19 FE EE AE he) 0 5 52 67 ?_
      rintro _ h20 ⟨b22, d23, k24, rfl, H21, hq25, hq26⟩
      show Own.W l Z _ K _ h20 5 52 67 #[.val (.int u0), .val (.int u1), .val (.int u2), .val (.int u3), .val (.int (0 : Int32)), .val (.int u), .val (.ref a3), .val (.ref a8), .val (.ref a13), .unset, .unset] []
      refine Own.W.iload ok at_67 69 rfl ?_
      refine Own.W.ifT ok at_69 79 (by decide : (0 : Int32) = (0 : Int32)) ?_
      refine Own.W.aload ok at_79 81 rfl rfl ?_
      refine Own.W.callS ok tb (argsL := [(.ref a3)]) (rest := []) 139 140 141 142 rfl rfl rfl rfl at_81 pd_16 (c_fs l tb a3 b22 nP nC nS nR u0 u h20 ((a8, o_Sync (.ref nP) (.ref nC) (.ref eL) (.int u1) (.int (0 : Int32)) (.ref a3) (.int (0 : Int32)) (.int (0 : Int32)) .null (.int (0 : Int32)) (.int (0 : Int32)) (.int (0 : Int32)) (.int (0 : Int32))) :: (b22, o_AL (.int (1 : Int32)) (.ref d23) (.int (1 : Int32))) :: (d23, .inr ((.object "java/lang/Object"), k24, [(.ref a8)])) :: (a13, o_Sync (.ref nP) (.ref nC) (.ref eL) (.int u2) (.int (0 : Int32)) .null (.int (0 : Int32)) (.int (0 : Int32)) .null (.int (0 : Int32)) (.int (0 : Int32)) (.int (0 : Int32)) (.int (0 : Int32))) :: cs) H21 SN SR) 0 6 64 84 ?_
      rintro _ h27 ⟨t29, rfl, H28⟩
      show Own.W l Z _ K _ h27 6 64 84 #[.val (.int u0), .val (.int u1), .val (.int u2), .val (.int u3), .val (.int (0 : Int32)), .val (.int u), .val (.ref a3), .val (.ref a8), .val (.ref a13), .unset, .unset] [(.ref t29)]
      refine Own.W.pop ok at_84 85 rfl ?_
      refine Own.W.aload ok at_85 87 rfl rfl ?_
      have H30 : Own.HS Z h27 ((t29, o_Unit (.ref nS) (.ref nR) (.int (1 : Int32)) (.ref a3) (.int (0 : Int32)) (.int (1 : Int32))) :: (a3, o_Sync (.ref nP) (.ref nC) (.ref b22) (.int u0) (.int u) .null (.int (0 : Int32)) (.int (0 : Int32)) (.ref t29) (.int (0 : Int32)) (.int (0 : Int32)) (.int (0 : Int32)) (.int (0 : Int32))) :: (a8, o_Sync (.ref nP) (.ref nC) (.ref eL) (.int u1) (.int (0 : Int32)) (.ref a3) (.int (0 : Int32)) (.int (0 : Int32)) .null (.int (0 : Int32)) (.int (0 : Int32)) (.int (0 : Int32)) (.int (0 : Int32))) :: (b22, o_AL (.int (1 : Int32)) (.ref d23) (.int (1 : Int32))) :: (d23, .inr ((.object "java/lang/Object"), k24, [(.ref a8)])) :: (a13, o_Sync (.ref nP) (.ref nC) (.ref eL) (.int u2) (.int (0 : Int32)) .null (.int (0 : Int32)) (.int (0 : Int32)) .null (.int (0 : Int32)) (.int (0 : Int32)) (.int (0 : Int32)) (.int (0 : Int32))) :: cs) := H28.pull 1 _ rfl rfl
      have H31 : Own.HS Z h27 ((a3, o_Sync (.ref nP) (.ref nC) (.ref b22) (.int u0) (.int u) .null (.int (0 : Int32)) (.int (0 : Int32)) (.ref t29) (.int (0 : Int32)) (.int (0 : Int32)) (.int (0 : Int32)) (.int (0 : Int32))) :: (t29, o_Unit (.ref nS) (.ref nR) (.int (1 : Int32)) (.ref a3) (.int (0 : Int32)) (.int (1 : Int32))) :: (a8, o_Sync (.ref nP) (.ref nC) (.ref eL) (.int u1) (.int (0 : Int32)) (.ref a3) (.int (0 : Int32)) (.int (0 : Int32)) .null (.int (0 : Int32)) (.int (0 : Int32)) (.int (0 : Int32)) (.int (0 : Int32))) :: (b22, o_AL (.int (1 : Int32)) (.ref d23) (.int (1 : Int32))) :: (d23, .inr ((.object "java/lang/Object"), k24, [(.ref a8)])) :: (a13, o_Sync (.ref nP) (.ref nC) (.ref eL) (.int u2) (.int (0 : Int32)) .null (.int (0 : Int32)) (.int (0 : Int32)) .null (.int (0 : Int32)) (.int (0 : Int32)) (.int (0 : Int32)) (.int (0 : Int32))) :: cs) := H30.pull 1 _ rfl rfl
      refine Own.W.callV ok tb (a := a3) (argsL := []) (rest := []) 197 198 200 199 201 2 rfl rfl rfl rfl rfl rfl (notFace_of_selects (args := #[]) (mvT ok.2.1 (tb _ (List.mem_of_getElem? (i := 200) rfl)))) (H31.exa (i := 0) rfl) at_87 pd_1 (c_sr l tb a3 t29 b22 nP nC nS nR u0 u h27 ((a8, o_Sync (.ref nP) (.ref nC) (.ref eL) (.int u1) (.int (0 : Int32)) (.ref a3) (.int (0 : Int32)) (.int (0 : Int32)) .null (.int (0 : Int32)) (.int (0 : Int32)) (.int (0 : Int32)) (.int (0 : Int32))) :: (b22, o_AL (.int (1 : Int32)) (.ref d23) (.int (1 : Int32))) :: (d23, .inr ((.object "java/lang/Object"), k24, [(.ref a8)])) :: (a13, o_Sync (.ref nP) (.ref nC) (.ref eL) (.int u2) (.int (0 : Int32)) .null (.int (0 : Int32)) (.int (0 : Int32)) .null (.int (0 : Int32)) (.int (0 : Int32)) (.int (0 : Int32)) (.int (0 : Int32))) :: cs) H31) 0 6 64 90 ?_
      rintro _ h32 ⟨rfl, H33⟩
      show Own.W l Z _ K _ h32 6 64 90 #[.val (.int u0), .val (.int u1), .val (.int u2), .val (.int u3), .val (.int (0 : Int32)), .val (.int u), .val (.ref a3), .val (.ref a8), .val (.ref a13), .unset, .unset] []
      refine Own.W.aload ok at_90 92 rfl rfl ?_
      have H34 : Own.HS Z h32 ((b22, o_AL (.int (1 : Int32)) (.ref d23) (.int (1 : Int32))) :: (a3, o_Sync (.ref nP) (.ref nC) (.ref b22) (.int u0) (.int u) .null (.int (0 : Int32)) (.int (1 : Int32)) (.ref t29) (.int (0 : Int32)) (.int (0 : Int32)) (.int (0 : Int32)) (.int (0 : Int32))) :: (t29, o_Unit (.ref nS) (.ref nR) (.int (1 : Int32)) (.ref a3) (.int (0 : Int32)) (.int (0 : Int32))) :: (a8, o_Sync (.ref nP) (.ref nC) (.ref eL) (.int u1) (.int (0 : Int32)) (.ref a3) (.int (0 : Int32)) (.int (0 : Int32)) .null (.int (0 : Int32)) (.int (0 : Int32)) (.int (0 : Int32)) (.int (0 : Int32))) :: (d23, .inr ((.object "java/lang/Object"), k24, [(.ref a8)])) :: (a13, o_Sync (.ref nP) (.ref nC) (.ref eL) (.int u2) (.int (0 : Int32)) .null (.int (0 : Int32)) (.int (0 : Int32)) .null (.int (0 : Int32)) (.int (0 : Int32)) (.int (0 : Int32)) (.int (0 : Int32))) :: cs) := H33.pull 3 _ rfl rfl
      have H35 : Own.HS Z h32 ((a3, o_Sync (.ref nP) (.ref nC) (.ref b22) (.int u0) (.int u) .null (.int (0 : Int32)) (.int (1 : Int32)) (.ref t29) (.int (0 : Int32)) (.int (0 : Int32)) (.int (0 : Int32)) (.int (0 : Int32))) :: (b22, o_AL (.int (1 : Int32)) (.ref d23) (.int (1 : Int32))) :: (t29, o_Unit (.ref nS) (.ref nR) (.int (1 : Int32)) (.ref a3) (.int (0 : Int32)) (.int (0 : Int32))) :: (a8, o_Sync (.ref nP) (.ref nC) (.ref eL) (.int u1) (.int (0 : Int32)) (.ref a3) (.int (0 : Int32)) (.int (0 : Int32)) .null (.int (0 : Int32)) (.int (0 : Int32)) (.int (0 : Int32)) (.int (0 : Int32))) :: (d23, .inr ((.object "java/lang/Object"), k24, [(.ref a8)])) :: (a13, o_Sync (.ref nP) (.ref nC) (.ref eL) (.int u2) (.int (0 : Int32)) .null (.int (0 : Int32)) (.int (0 : Int32)) .null (.int (0 : Int32)) (.int (0 : Int32)) (.int (0 : Int32)) (.int (0 : Int32))) :: cs) := H34.pull 1 _ rfl rfl
      refine Own.W.callV ok tb (a := a3) (argsL := []) (rest := []) 207 208 210 209 211 2 rfl rfl rfl rfl rfl rfl (notFace_of_selects (args := #[]) (mvT ok.2.1 (tb _ (List.mem_of_getElem? (i := 210) rfl)))) (H35.exa (i := 0) rfl) at_92 pd_9 (c_wh0 l tb a3 b22 t29 d23 nP nC u0 u (0 : Int32) (1 : Int32) h32 ((t29, o_Unit (.ref nS) (.ref nR) (.int (1 : Int32)) (.ref a3) (.int (0 : Int32)) (.int (0 : Int32))) :: (a8, o_Sync (.ref nP) (.ref nC) (.ref eL) (.int u1) (.int (0 : Int32)) (.ref a3) (.int (0 : Int32)) (.int (0 : Int32)) .null (.int (0 : Int32)) (.int (0 : Int32)) (.int (0 : Int32)) (.int (0 : Int32))) :: (d23, .inr ((.object "java/lang/Object"), k24, [(.ref a8)])) :: (a13, o_Sync (.ref nP) (.ref nC) (.ref eL) (.int u2) (.int (0 : Int32)) .null (.int (0 : Int32)) (.int (0 : Int32)) .null (.int (0 : Int32)) (.int (0 : Int32)) (.int (0 : Int32)) (.int (0 : Int32))) :: cs) H35 (by decide)) 0 6 64 95 ?_
      rintro _ _ ⟨rfl, rfl⟩
      show Own.W l Z _ K _ h32 6 64 95 #[.val (.int u0), .val (.int u1), .val (.int u2), .val (.int u3), .val (.int (0 : Int32)), .val (.int u), .val (.ref a3), .val (.ref a8), .val (.ref a13), .unset, .unset] [(.int (0 : Int32))]
      refine Own.W.ifF ok at_95 98 (by decide : (0 : Int32) = (0 : Int32)) ?_
      refine Own.W.aload ok at_98 100 rfl rfl ?_
      refine Own.W.callV ok tb (a := a8) (argsL := []) (rest := []) 226 227 229 228 230 2 rfl rfl rfl rfl rfl rfl (notFace_of_selects (args := #[]) (mvT ok.2.1 (tb _ (List.mem_of_getElem? (i := 229) rfl)))) (H35.exa (i := 3) rfl) at_100 pd_9 (c_ended l tb a8 (0 : Int32) h32 (H35.fld (i := 3) (j := 12) rfl rfl) (Or.inl rfl)) 0 6 64 103 ?_
      rintro _ _ ⟨rfl, rfl⟩
      show Own.W l Z _ K _ h32 6 64 103 #[.val (.int u0), .val (.int u1), .val (.int u2), .val (.int u3), .val (.int (0 : Int32)), .val (.int u), .val (.ref a3), .val (.ref a8), .val (.ref a13), .unset, .unset] [(.int (0 : Int32))]
      refine Own.W.ifF ok at_103 106 (by decide : (0 : Int32) = (0 : Int32)) ?_
      refine Own.W.aload ok at_106 108 rfl rfl ?_
      refine Own.W.callV ok tb (a := a13) (argsL := []) (rest := []) 226 227 229 228 230 2 rfl rfl rfl rfl rfl rfl (notFace_of_selects (args := #[]) (mvT ok.2.1 (tb _ (List.mem_of_getElem? (i := 229) rfl)))) (H35.exa (i := 5) rfl) at_108 pd_9 (c_ended l tb a13 (0 : Int32) h32 (H35.fld (i := 5) (j := 12) rfl rfl) (Or.inl rfl)) 0 6 64 111 ?_
      rintro _ _ ⟨rfl, rfl⟩
      show Own.W l Z _ K _ h32 6 64 111 #[.val (.int u0), .val (.int u1), .val (.int u2), .val (.int u3), .val (.int (0 : Int32)), .val (.int u), .val (.ref a3), .val (.ref a8), .val (.ref a13), .unset, .unset] [(.int (0 : Int32))]
      refine Own.W.ifF ok at_111 114 (by decide : (0 : Int32) = (0 : Int32)) ?_
      refine Own.W.aload ok at_114 116 rfl rfl ?_
      refine Own.W.callV ok tb (a := a3) (argsL := []) (rest := []) 226 227 229 228 230 2 rfl rfl rfl rfl rfl rfl (notFace_of_selects (args := #[]) (mvT ok.2.1 (tb _ (List.mem_of_getElem? (i := 229) rfl)))) (H35.exa (i := 0) rfl) at_116 pd_9 (c_ended l tb a3 (0 : Int32) h32 (H35.fld (i := 0) (j := 12) rfl rfl) (Or.inl rfl)) 0 6 64 119 ?_
      rintro _ _ ⟨rfl, rfl⟩
      show Own.W l Z _ K _ h32 6 64 119 #[.val (.int u0), .val (.int u1), .val (.int u2), .val (.int u3), .val (.int (0 : Int32)), .val (.int u), .val (.ref a3), .val (.ref a8), .val (.ref a13), .unset, .unset] [(.int (0 : Int32))]
      refine Own.W.ifF ok at_119 122 (by decide : (0 : Int32) = (0 : Int32)) ?_
      refine Own.W.iconst ok at_122 123 (1 : Int32) rfl ?_
      refine Own.W.goto ok at_123 127 ?_
      refine Own.W.istore ok at_127 129 #[.val (.int u0), .val (.int u1), .val (.int u2), .val (.int u3), .val (.int (0 : Int32)), .val (.int u), .val (.ref a3), .val (.ref a8), .val (.ref a13), .val (.int (1 : Int32)), .unset] rfl ?_
      refine Own.W.aload ok at_129 131 rfl rfl ?_
      have H36 : Own.HS Z h32 ((a8, o_Sync (.ref nP) (.ref nC) (.ref eL) (.int u1) (.int (0 : Int32)) (.ref a3) (.int (0 : Int32)) (.int (0 : Int32)) .null (.int (0 : Int32)) (.int (0 : Int32)) (.int (0 : Int32)) (.int (0 : Int32))) :: (a3, o_Sync (.ref nP) (.ref nC) (.ref b22) (.int u0) (.int u) .null (.int (0 : Int32)) (.int (1 : Int32)) (.ref t29) (.int (0 : Int32)) (.int (0 : Int32)) (.int (0 : Int32)) (.int (0 : Int32))) :: (b22, o_AL (.int (1 : Int32)) (.ref d23) (.int (1 : Int32))) :: (t29, o_Unit (.ref nS) (.ref nR) (.int (1 : Int32)) (.ref a3) (.int (0 : Int32)) (.int (0 : Int32))) :: (d23, .inr ((.object "java/lang/Object"), k24, [(.ref a8)])) :: (a13, o_Sync (.ref nP) (.ref nC) (.ref eL) (.int u2) (.int (0 : Int32)) .null (.int (0 : Int32)) (.int (0 : Int32)) .null (.int (0 : Int32)) (.int (0 : Int32)) (.int (0 : Int32)) (.int (0 : Int32))) :: cs) := H35.pull 3 _ rfl rfl
      refine Own.W.callV ok tb (a := a8) (argsL := []) (rest := []) 233 234 236 235 237 2 rfl rfl rfl rfl rfl rfl (notFace_of_selects (args := #[]) (mvT ok.2.1 (tb _ (List.mem_of_getElem? (i := 236) rfl)))) (H36.exa (i := 0) rfl) at_131 pd_1 (c_eac l tb a8 a3 b22 t29 nP nC eL u0 u u1 (0 : Int32) (1 : Int32) h32 ((b22, o_AL (.int (1 : Int32)) (.ref d23) (.int (1 : Int32))) :: (t29, o_Unit (.ref nS) (.ref nR) (.int (1 : Int32)) (.ref a3) (.int (0 : Int32)) (.int (0 : Int32))) :: (d23, .inr ((.object "java/lang/Object"), k24, [(.ref a8)])) :: (a13, o_Sync (.ref nP) (.ref nC) (.ref eL) (.int u2) (.int (0 : Int32)) .null (.int (0 : Int32)) (.int (0 : Int32)) .null (.int (0 : Int32)) (.int (0 : Int32)) (.int (0 : Int32)) (.int (0 : Int32))) :: cs) H36 (by decide)) 0 6 64 134 ?_
      rintro _ h37 ⟨rfl, H38⟩
      show Own.W l Z _ K _ h37 6 64 134 #[.val (.int u0), .val (.int u1), .val (.int u2), .val (.int u3), .val (.int (0 : Int32)), .val (.int u), .val (.ref a3), .val (.ref a8), .val (.ref a13), .val (.int (1 : Int32)), .unset] []
      refine Own.W.aload ok at_134 136 rfl rfl ?_
      refine Own.W.callV ok tb (a := a8) (argsL := []) (rest := []) 226 227 229 228 230 2 rfl rfl rfl rfl rfl rfl (notFace_of_selects (args := #[]) (mvT ok.2.1 (tb _ (List.mem_of_getElem? (i := 229) rfl)))) (H38.exa (i := 0) rfl) at_136 pd_9 (c_ended l tb a8 (1 : Int32) h37 (H38.fld (i := 0) (j := 12) rfl rfl) (Or.inr rfl)) 0 6 64 139 ?_
      rintro _ _ ⟨rfl, rfl⟩
      show Own.W l Z _ K _ h37 6 64 139 #[.val (.int u0), .val (.int u1), .val (.int u2), .val (.int u3), .val (.int (0 : Int32)), .val (.int u), .val (.ref a3), .val (.ref a8), .val (.ref a13), .val (.int (1 : Int32)), .unset] [(.int (1 : Int32))]
      refine Own.W.ifF ok at_139 142 (by decide : ¬ ((1 : Int32) = (0 : Int32))) ?_
      refine Own.W.aload ok at_142 144 rfl rfl ?_
      refine Own.W.callV ok tb (a := a3) (argsL := []) (rest := []) 226 227 229 228 230 2 rfl rfl rfl rfl rfl rfl (notFace_of_selects (args := #[]) (mvT ok.2.1 (tb _ (List.mem_of_getElem? (i := 229) rfl)))) (H38.exa (i := 1) rfl) at_144 pd_9 (c_ended l tb a3 (0 : Int32) h37 (H38.fld (i := 1) (j := 12) rfl rfl) (Or.inl rfl)) 0 6 64 147 ?_
      rintro _ _ ⟨rfl, rfl⟩
      show Own.W l Z _ K _ h37 6 64 147 #[.val (.int u0), .val (.int u1), .val (.int u2), .val (.int u3), .val (.int (0 : Int32)), .val (.int u), .val (.ref a3), .val (.ref a8), .val (.ref a13), .val (.int (1 : Int32)), .unset] [(.int (0 : Int32))]
      refine Own.W.ifF ok at_147 150 (by decide : (0 : Int32) = (0 : Int32)) ?_
      refine Own.W.aload ok at_150 152 rfl rfl ?_
      refine Own.W.callV ok tb (a := a13) (argsL := []) (rest := []) 226 227 229 228 230 2 rfl rfl rfl rfl rfl rfl (notFace_of_selects (args := #[]) (mvT ok.2.1 (tb _ (List.mem_of_getElem? (i := 229) rfl)))) (H38.exa (i := 5) rfl) at_152 pd_9 (c_ended l tb a13 (0 : Int32) h37 (H38.fld (i := 5) (j := 12) rfl rfl) (Or.inl rfl)) 0 6 64 155 ?_
      rintro _ _ ⟨rfl, rfl⟩
      show Own.W l Z _ K _ h37 6 64 155 #[.val (.int u0), .val (.int u1), .val (.int u2), .val (.int u3), .val (.int (0 : Int32)), .val (.int u), .val (.ref a3), .val (.ref a8), .val (.ref a13), .val (.int (1 : Int32)), .unset] [(.int (0 : Int32))]
      refine Own.W.ifF ok at_155 158 (by decide : (0 : Int32) = (0 : Int32)) ?_
      refine Own.W.aload ok at_158 160 rfl rfl ?_
      refine Own.W.callV ok tb (a := a8) (argsL := []) (rest := []) 238 182 184 183 185 2 rfl rfl rfl rfl rfl rfl (notFace_of_selects (args := #[]) (mvT ok.2.1 (tb _ (List.mem_of_getElem? (i := 184) rfl)))) (H38.exa (i := 0) rfl) at_160 pd_9 (c_ready l tb a8 (0 : Int32) h37 (H38.fld (i := 0) (j := 7) rfl rfl) (Or.inl rfl)) 0 6 64 163 ?_
      rintro _ _ ⟨rfl, rfl⟩
      show Own.W l Z _ K _ h37 6 64 163 #[.val (.int u0), .val (.int u1), .val (.int u2), .val (.int u3), .val (.int (0 : Int32)), .val (.int u), .val (.ref a3), .val (.ref a8), .val (.ref a13), .val (.int (1 : Int32)), .unset] [(.int (0 : Int32))]
      refine Own.W.ifF ok at_163 166 (by decide : (0 : Int32) = (0 : Int32)) ?_
      refine Own.W.aload ok at_166 168 rfl rfl ?_
      refine Own.W.callV ok tb (a := a8) (argsL := []) (rest := []) 239 240 242 241 243 2 rfl rfl rfl rfl rfl rfl (notFace_of_selects (args := #[]) (mvT ok.2.1 (tb _ (List.mem_of_getElem? (i := 242) rfl)))) (H38.exa (i := 0) rfl) at_168 pd_17 (c_par l tb a8 a3 h37 (H38.fld (i := 0) (j := 5) rfl rfl)) 0 6 64 171 ?_
      rintro _ _ ⟨rfl, rfl⟩
      show Own.W l Z _ K _ h37 6 64 171 #[.val (.int u0), .val (.int u1), .val (.int u2), .val (.int u3), .val (.int (0 : Int32)), .val (.int u), .val (.ref a3), .val (.ref a8), .val (.ref a13), .val (.int (1 : Int32)), .unset] [(.ref a3)]
      refine Own.W.aload ok at_171 173 rfl rfl ?_
      refine Own.W.acmp ok at_173 176 true (decide_eq_true rfl) ?_
      refine Own.W.aload ok at_176 178 rfl rfl ?_
      have H39 : Own.HS Z h37 ((b22, o_AL (.int (1 : Int32)) (.ref d23) (.int (1 : Int32))) :: (a8, o_Sync (.ref nP) (.ref nC) (.ref eL) (.int u1) (.int (0 : Int32)) (.ref a3) (.int (0 : Int32)) (.int (0 : Int32)) .null (.int (0 : Int32)) (.int (0 : Int32)) (.int (0 : Int32)) (.int (1 : Int32))) :: (a3, o_Sync (.ref nP) (.ref nC) (.ref b22) (.int u0) (.int u) .null (.int (0 : Int32)) (.int (1 : Int32)) (.ref t29) (.int (0 : Int32)) (.int (0 : Int32)) (.int (1 : Int32)) (.int (0 : Int32))) :: (t29, o_Unit (.ref nS) (.ref nR) (.int (1 : Int32)) (.ref a3) (.int (0 : Int32)) (.int (0 : Int32))) :: (d23, .inr ((.object "java/lang/Object"), k24, [(.ref a8)])) :: (a13, o_Sync (.ref nP) (.ref nC) (.ref eL) (.int u2) (.int (0 : Int32)) .null (.int (0 : Int32)) (.int (0 : Int32)) .null (.int (0 : Int32)) (.int (0 : Int32)) (.int (0 : Int32)) (.int (0 : Int32))) :: cs) := H38.pull 2 _ rfl rfl
      have H40 : Own.HS Z h37 ((a3, o_Sync (.ref nP) (.ref nC) (.ref b22) (.int u0) (.int u) .null (.int (0 : Int32)) (.int (1 : Int32)) (.ref t29) (.int (0 : Int32)) (.int (0 : Int32)) (.int (1 : Int32)) (.int (0 : Int32))) :: (b22, o_AL (.int (1 : Int32)) (.ref d23) (.int (1 : Int32))) :: (a8, o_Sync (.ref nP) (.ref nC) (.ref eL) (.int u1) (.int (0 : Int32)) (.ref a3) (.int (0 : Int32)) (.int (0 : Int32)) .null (.int (0 : Int32)) (.int (0 : Int32)) (.int (0 : Int32)) (.int (1 : Int32))) :: (t29, o_Unit (.ref nS) (.ref nR) (.int (1 : Int32)) (.ref a3) (.int (0 : Int32)) (.int (0 : Int32))) :: (d23, .inr ((.object "java/lang/Object"), k24, [(.ref a8)])) :: (a13, o_Sync (.ref nP) (.ref nC) (.ref eL) (.int u2) (.int (0 : Int32)) .null (.int (0 : Int32)) (.int (0 : Int32)) .null (.int (0 : Int32)) (.int (0 : Int32)) (.int (0 : Int32)) (.int (0 : Int32))) :: cs) := H39.pull 2 _ rfl rfl
      refine Own.W.callV ok tb (a := a3) (argsL := []) (rest := []) 207 208 210 209 211 2 rfl rfl rfl rfl rfl rfl (notFace_of_selects (args := #[]) (mvT ok.2.1 (tb _ (List.mem_of_getElem? (i := 210) rfl)))) (H40.exa (i := 0) rfl) at_178 pd_9 (c_wh1 l tb a3 b22 t29 d23 nP nC u0 u (1 : Int32) (1 : Int32) h37 ((a8, o_Sync (.ref nP) (.ref nC) (.ref eL) (.int u1) (.int (0 : Int32)) (.ref a3) (.int (0 : Int32)) (.int (0 : Int32)) .null (.int (0 : Int32)) (.int (0 : Int32)) (.int (0 : Int32)) (.int (1 : Int32))) :: (t29, o_Unit (.ref nS) (.ref nR) (.int (1 : Int32)) (.ref a3) (.int (0 : Int32)) (.int (0 : Int32))) :: (d23, .inr ((.object "java/lang/Object"), k24, [(.ref a8)])) :: (a13, o_Sync (.ref nP) (.ref nC) (.ref eL) (.int u2) (.int (0 : Int32)) .null (.int (0 : Int32)) (.int (0 : Int32)) .null (.int (0 : Int32)) (.int (0 : Int32)) (.int (0 : Int32)) (.int (0 : Int32))) :: cs) H40 rfl) 0 6 64 181 ?_
      rintro _ _ ⟨rfl, rfl⟩
      show Own.W l Z _ K _ h37 6 64 181 #[.val (.int u0), .val (.int u1), .val (.int u2), .val (.int u3), .val (.int (0 : Int32)), .val (.int u), .val (.ref a3), .val (.ref a8), .val (.ref a13), .val (.int (1 : Int32)), .unset] [(.int (1 : Int32))]
      refine Own.W.iload ok at_181 183 rfl ?_
      refine Own.W.ifF ok at_183 186 (by decide : (0 : Int32) = (0 : Int32)) ?_
      refine Own.W.iconst ok at_186 187 (1 : Int32) rfl ?_
      refine Own.W.goto ok at_187 191 ?_
      refine Own.W.icmpF ok at_191 194 (by decide : (1 : Int32) = (1 : Int32)) ?_
      refine Own.W.iconst ok at_194 195 (1 : Int32) rfl ?_
      refine Own.W.goto ok at_195 199 ?_
      refine Own.W.istore ok at_199 201 #[.val (.int u0), .val (.int u1), .val (.int u2), .val (.int u3), .val (.int (0 : Int32)), .val (.int u), .val (.ref a3), .val (.ref a8), .val (.ref a13), .val (.int (1 : Int32)), .val (.int (1 : Int32))] rfl ?_
      refine Own.W.iload ok at_201 203 rfl ?_
      refine Own.W.ifF ok at_203 206 (by decide : (0 : Int32) = (0 : Int32)) ?_
      refine Own.W.iload ok at_206 208 rfl ?_
      refine Own.W.ifF ok at_208 211 (by decide : ¬ ((1 : Int32) = (0 : Int32))) ?_
      refine Own.W.iload ok at_211 213 rfl ?_
      refine Own.W.ifF ok at_213 216 (by decide : ¬ ((1 : Int32) = (0 : Int32))) ?_
      refine Own.W.iconst ok at_216 217 (1 : Int32) rfl ?_
      refine Own.W.goto ok at_217 221 ?_
      exact Own.W.iret ok at_221 rfl ⟨rfl, trivial⟩
    refine Own.W.iff ok at_16 23 19 (fun (hc41 : (u3 &&& (2 : Int32)) = (0 : Int32)) => ?_) (fun (hc41 : ¬ ((u3 &&& (2 : Int32)) = (0 : Int32))) => ?_)
    · refine Own.W.iconst ok at_23 24 (0 : Int32) rfl ?_
      exact J2 _ (Or.inl rfl)
    · refine Own.W.iconst ok at_19 20 (1 : Int32) rfl ?_
      refine Own.W.goto ok at_20 24 ?_
      exact J2 _ (Or.inr rfl)
  · refine Own.W.iconst ok at_6 7 (1 : Int32) rfl ?_
    refine Own.W.goto ok at_7 11 ?_
    refine Own.W.istore ok at_11 13 #[.val (.int u0), .val (.int u1), .val (.int u2), .val (.int u3), .val (.int (1 : Int32)), .unset, .unset, .unset, .unset, .unset, .unset] rfl ?_
    refine Own.W.iloadN ok at_13 14 rfl ?_
    refine Own.W.iconst ok at_14 15 (2 : Int32) rfl ?_
    refine Own.W.iand ok at_15 16 ?_
    have J42 : ∀ (u : Int32) (hu : u = (0 : Int32) ∨ u = (1 : Int32)), Own.W l Z room_1 K (fun rr h' => rr = some (.int (1 : Int32)) ∧ True) h 0 0 24 #[.val (.int u0), .val (.int u1), .val (.int u2), .val (.int u3), .val (.int (1 : Int32)), .unset, .unset, .unset, .unset, .unset, .unset] [(.int u)] := by
      intro u hu
      refine Own.W.istore ok at_24 26 #[.val (.int u0), .val (.int u1), .val (.int u2), .val (.int u3), .val (.int (1 : Int32)), .val (.int u), .unset, .unset, .unset, .unset, .unset] rfl ?_
      refine Own.W.new ok tb H 0 1 2 rfl rfl rfl (nw_Sync tb) at_26 1 16 29 (fun a43 h44 H45 => ?_)
      show Own.W l Z _ K _ h44 1 16 29 #[.val (.int u0), .val (.int u1), .val (.int u2), .val (.int u3), .val (.int (1 : Int32)), .val (.int u), .unset, .unset, .unset, .unset, .unset] [(.ref a43)]
      refine Own.W.dup ok at_29 30 rfl ?_
      refine Own.W.iloadN ok at_30 31 rfl ?_
      refine Own.W.iload ok at_31 33 rfl ?_
      refine Own.W.callI ok tb (a := a43) (argsL := [(.int u0), (.int u)]) (rest := [(.ref a43)]) 3 4 2 5 rfl rfl rfl rfl at_33 pd_15 (c_sini l tb a43 nP nC eL u0 u h44 (cs) H45 SP SC SE hu) 1 1 16 36 ?_
      rintro _ h46 ⟨rfl, H47⟩
      show Own.W l Z _ K _ h46 1 16 36 #[.val (.int u0), .val (.int u1), .val (.int u2), .val (.int u3), .val (.int (1 : Int32)), .val (.int u), .unset, .unset, .unset, .unset, .unset] [(.ref a43)]
      refine Own.W.astore ok at_36 38 #[.val (.int u0), .val (.int u1), .val (.int u2), .val (.int u3), .val (.int (1 : Int32)), .val (.int u), .val (.ref a43), .unset, .unset, .unset, .unset] rfl rfl ?_
      refine Own.W.new ok tb H47 0 1 2 rfl rfl rfl (nw_Sync tb) at_38 2 32 41 (fun a48 h49 H50 => ?_)
      show Own.W l Z _ K _ h49 2 32 41 #[.val (.int u0), .val (.int u1), .val (.int u2), .val (.int u3), .val (.int (1 : Int32)), .val (.int u), .val (.ref a43), .unset, .unset, .unset, .unset] [(.ref a48)]
      refine Own.W.dup ok at_41 42 rfl ?_
      refine Own.W.iloadN ok at_42 43 rfl ?_
      refine Own.W.iconst ok at_43 44 (0 : Int32) rfl ?_
      refine Own.W.callI ok tb (a := a48) (argsL := [(.int u1), (.int (0 : Int32))]) (rest := [(.ref a48)]) 3 4 2 5 rfl rfl rfl rfl at_44 pd_15 (c_sini l tb a48 nP nC eL u1 (0 : Int32) h49 ((a43, o_Sync (.ref nP) (.ref nC) (.ref eL) (.int u0) (.int u) .null (.int (0 : Int32)) (.int (0 : Int32)) .null (.int (0 : Int32)) (.int (0 : Int32)) (.int (0 : Int32)) (.int (0 : Int32))) :: cs) H50 SP SC SE (Or.inl rfl)) 1 2 32 47 ?_
      rintro _ h51 ⟨rfl, H52⟩
      show Own.W l Z _ K _ h51 2 32 47 #[.val (.int u0), .val (.int u1), .val (.int u2), .val (.int u3), .val (.int (1 : Int32)), .val (.int u), .val (.ref a43), .unset, .unset, .unset, .unset] [(.ref a48)]
      refine Own.W.astore ok at_47 49 #[.val (.int u0), .val (.int u1), .val (.int u2), .val (.int u3), .val (.int (1 : Int32)), .val (.int u), .val (.ref a43), .val (.ref a48), .unset, .unset, .unset] rfl rfl ?_
      refine Own.W.new ok tb H52 0 1 2 rfl rfl rfl (nw_Sync tb) at_49 3 48 52 (fun a53 h54 H55 => ?_)
      show Own.W l Z _ K _ h54 3 48 52 #[.val (.int u0), .val (.int u1), .val (.int u2), .val (.int u3), .val (.int (1 : Int32)), .val (.int u), .val (.ref a43), .val (.ref a48), .unset, .unset, .unset] [(.ref a53)]
      refine Own.W.dup ok at_52 53 rfl ?_
      refine Own.W.iloadN ok at_53 54 rfl ?_
      refine Own.W.iconst ok at_54 55 (0 : Int32) rfl ?_
      refine Own.W.callI ok tb (a := a53) (argsL := [(.int u2), (.int (0 : Int32))]) (rest := [(.ref a53)]) 3 4 2 5 rfl rfl rfl rfl at_55 pd_15 (c_sini l tb a53 nP nC eL u2 (0 : Int32) h54 ((a48, o_Sync (.ref nP) (.ref nC) (.ref eL) (.int u1) (.int (0 : Int32)) .null (.int (0 : Int32)) (.int (0 : Int32)) .null (.int (0 : Int32)) (.int (0 : Int32)) (.int (0 : Int32)) (.int (0 : Int32))) :: (a43, o_Sync (.ref nP) (.ref nC) (.ref eL) (.int u0) (.int u) .null (.int (0 : Int32)) (.int (0 : Int32)) .null (.int (0 : Int32)) (.int (0 : Int32)) (.int (0 : Int32)) (.int (0 : Int32))) :: cs) H55 SP SC SE (Or.inl rfl)) 1 3 48 58 ?_
      rintro _ h56 ⟨rfl, H57⟩
      show Own.W l Z _ K _ h56 3 48 58 #[.val (.int u0), .val (.int u1), .val (.int u2), .val (.int u3), .val (.int (1 : Int32)), .val (.int u), .val (.ref a43), .val (.ref a48), .unset, .unset, .unset] [(.ref a53)]
      refine Own.W.astore ok at_58 60 #[.val (.int u0), .val (.int u1), .val (.int u2), .val (.int u3), .val (.int (1 : Int32)), .val (.int u), .val (.ref a43), .val (.ref a48), .val (.ref a53), .unset, .unset] rfl rfl ?_
      refine Own.W.aload ok at_60 62 rfl rfl ?_
      refine Own.W.aload ok at_62 64 rfl rfl ?_
      have H58 : Own.HS Z h56 ((a48, o_Sync (.ref nP) (.ref nC) (.ref eL) (.int u1) (.int (0 : Int32)) .null (.int (0 : Int32)) (.int (0 : Int32)) .null (.int (0 : Int32)) (.int (0 : Int32)) (.int (0 : Int32)) (.int (0 : Int32))) :: (a53, o_Sync (.ref nP) (.ref nC) (.ref eL) (.int u2) (.int (0 : Int32)) .null (.int (0 : Int32)) (.int (0 : Int32)) .null (.int (0 : Int32)) (.int (0 : Int32)) (.int (0 : Int32)) (.int (0 : Int32))) :: (a43, o_Sync (.ref nP) (.ref nC) (.ref eL) (.int u0) (.int u) .null (.int (0 : Int32)) (.int (0 : Int32)) .null (.int (0 : Int32)) (.int (0 : Int32)) (.int (0 : Int32)) (.int (0 : Int32))) :: cs) := H57.pull 1 _ rfl rfl
      have H59 : Own.HS Z h56 ((a43, o_Sync (.ref nP) (.ref nC) (.ref eL) (.int u0) (.int u) .null (.int (0 : Int32)) (.int (0 : Int32)) .null (.int (0 : Int32)) (.int (0 : Int32)) (.int (0 : Int32)) (.int (0 : Int32))) :: (a48, o_Sync (.ref nP) (.ref nC) (.ref eL) (.int u1) (.int (0 : Int32)) .null (.int (0 : Int32)) (.int (0 : Int32)) .null (.int (0 : Int32)) (.int (0 : Int32)) (.int (0 : Int32)) (.int (0 : Int32))) :: (a53, o_Sync (.ref nP) (.ref nC) (.ref eL) (.int u2) (.int (0 : Int32)) .null (.int (0 : Int32)) (.int (0 : Int32)) .null (.int (0 : Int32)) (.int (0 : Int32)) (.int (0 : Int32)) (.int (0 : Int32))) :: cs) := H58.pull 2 _ rfl rfl
      refine Own.W.callV ok tb (a := a43) (argsL := [(.ref a48)]) (rest := []) 30 31 33 32 34 2 rfl rfl rfl rfl rfl rfl (notFace_of_selects (args := #[]) (mvT ok.2.1 (tb _ (List.mem_of_getElem? (i := 33) rfl)))) (H59.exa (i := 0) rfl) at_64 pd_12 (c_dp1 l tb a43 a48 nP nC eL eA ce u0 u u1 h56 ((a53, o_Sync (.ref nP) (.ref nC) (.ref eL) (.int u2) (.int (0 : Int32)) .null (.int (0 : Int32)) (.int (0 : Int32)) .null (.int (0 : Int32)) (.int (0 : Int32)) (.int (0 : Int32)) (.int (0 : Int32))) :: cs) H59 FE EE AE he) 0 5 52 67 ?_
      rintro _ h60 ⟨b62, d63, k64, rfl, H61, hq65, hq66⟩
      show Own.W l Z _ K _ h60 5 52 67 #[.val (.int u0), .val (.int u1), .val (.int u2), .val (.int u3), .val (.int (1 : Int32)), .val (.int u), .val (.ref a43), .val (.ref a48), .val (.ref a53), .unset, .unset] []
      refine Own.W.iload ok at_67 69 rfl ?_
      refine Own.W.ifF ok at_69 72 (by decide : ¬ ((1 : Int32) = (0 : Int32))) ?_
      refine Own.W.aload ok at_72 74 rfl rfl ?_
      refine Own.W.aload ok at_74 76 rfl rfl ?_
      have H67 : Own.HS Z h60 ((a48, o_Sync (.ref nP) (.ref nC) (.ref eL) (.int u1) (.int (0 : Int32)) (.ref a43) (.int (0 : Int32)) (.int (0 : Int32)) .null (.int (0 : Int32)) (.int (0 : Int32)) (.int (0 : Int32)) (.int (0 : Int32))) :: (a43, o_Sync (.ref nP) (.ref nC) (.ref b62) (.int u0) (.int u) .null (.int (0 : Int32)) (.int (0 : Int32)) .null (.int (0 : Int32)) (.int (0 : Int32)) (.int (0 : Int32)) (.int (0 : Int32))) :: (b62, o_AL (.int (1 : Int32)) (.ref d63) (.int (1 : Int32))) :: (d63, .inr ((.object "java/lang/Object"), k64, [(.ref a48)])) :: (a53, o_Sync (.ref nP) (.ref nC) (.ref eL) (.int u2) (.int (0 : Int32)) .null (.int (0 : Int32)) (.int (0 : Int32)) .null (.int (0 : Int32)) (.int (0 : Int32)) (.int (0 : Int32)) (.int (0 : Int32))) :: cs) := H61.pull 1 _ rfl rfl
      have H68 : Own.HS Z h60 ((d63, .inr ((.object "java/lang/Object"), k64, [(.ref a48)])) :: (a48, o_Sync (.ref nP) (.ref nC) (.ref eL) (.int u1) (.int (0 : Int32)) (.ref a43) (.int (0 : Int32)) (.int (0 : Int32)) .null (.int (0 : Int32)) (.int (0 : Int32)) (.int (0 : Int32)) (.int (0 : Int32))) :: (a43, o_Sync (.ref nP) (.ref nC) (.ref b62) (.int u0) (.int u) .null (.int (0 : Int32)) (.int (0 : Int32)) .null (.int (0 : Int32)) (.int (0 : Int32)) (.int (0 : Int32)) (.int (0 : Int32))) :: (b62, o_AL (.int (1 : Int32)) (.ref d63) (.int (1 : Int32))) :: (a53, o_Sync (.ref nP) (.ref nC) (.ref eL) (.int u2) (.int (0 : Int32)) .null (.int (0 : Int32)) (.int (0 : Int32)) .null (.int (0 : Int32)) (.int (0 : Int32)) (.int (0 : Int32)) (.int (0 : Int32))) :: cs) := H67.pull 3 _ rfl rfl
      have H69 : Own.HS Z h60 ((b62, o_AL (.int (1 : Int32)) (.ref d63) (.int (1 : Int32))) :: (d63, .inr ((.object "java/lang/Object"), k64, [(.ref a48)])) :: (a48, o_Sync (.ref nP) (.ref nC) (.ref eL) (.int u1) (.int (0 : Int32)) (.ref a43) (.int (0 : Int32)) (.int (0 : Int32)) .null (.int (0 : Int32)) (.int (0 : Int32)) (.int (0 : Int32)) (.int (0 : Int32))) :: (a43, o_Sync (.ref nP) (.ref nC) (.ref b62) (.int u0) (.int u) .null (.int (0 : Int32)) (.int (0 : Int32)) .null (.int (0 : Int32)) (.int (0 : Int32)) (.int (0 : Int32)) (.int (0 : Int32))) :: (a53, o_Sync (.ref nP) (.ref nC) (.ref eL) (.int u2) (.int (0 : Int32)) .null (.int (0 : Int32)) (.int (0 : Int32)) .null (.int (0 : Int32)) (.int (0 : Int32)) (.int (0 : Int32)) (.int (0 : Int32))) :: cs) := H68.pull 3 _ rfl rfl
      have H70 : Own.HS Z h60 ((a53, o_Sync (.ref nP) (.ref nC) (.ref eL) (.int u2) (.int (0 : Int32)) .null (.int (0 : Int32)) (.int (0 : Int32)) .null (.int (0 : Int32)) (.int (0 : Int32)) (.int (0 : Int32)) (.int (0 : Int32))) :: (b62, o_AL (.int (1 : Int32)) (.ref d63) (.int (1 : Int32))) :: (d63, .inr ((.object "java/lang/Object"), k64, [(.ref a48)])) :: (a48, o_Sync (.ref nP) (.ref nC) (.ref eL) (.int u1) (.int (0 : Int32)) (.ref a43) (.int (0 : Int32)) (.int (0 : Int32)) .null (.int (0 : Int32)) (.int (0 : Int32)) (.int (0 : Int32)) (.int (0 : Int32))) :: (a43, o_Sync (.ref nP) (.ref nC) (.ref b62) (.int u0) (.int u) .null (.int (0 : Int32)) (.int (0 : Int32)) .null (.int (0 : Int32)) (.int (0 : Int32)) (.int (0 : Int32)) (.int (0 : Int32))) :: cs) := H69.pull 4 _ rfl rfl
      have H71 : Own.HS Z h60 ((a43, o_Sync (.ref nP) (.ref nC) (.ref b62) (.int u0) (.int u) .null (.int (0 : Int32)) (.int (0 : Int32)) .null (.int (0 : Int32)) (.int (0 : Int32)) (.int (0 : Int32)) (.int (0 : Int32))) :: (a53, o_Sync (.ref nP) (.ref nC) (.ref eL) (.int u2) (.int (0 : Int32)) .null (.int (0 : Int32)) (.int (0 : Int32)) .null (.int (0 : Int32)) (.int (0 : Int32)) (.int (0 : Int32)) (.int (0 : Int32))) :: (b62, o_AL (.int (1 : Int32)) (.ref d63) (.int (1 : Int32))) :: (d63, .inr ((.object "java/lang/Object"), k64, [(.ref a48)])) :: (a48, o_Sync (.ref nP) (.ref nC) (.ref eL) (.int u1) (.int (0 : Int32)) (.ref a43) (.int (0 : Int32)) (.int (0 : Int32)) .null (.int (0 : Int32)) (.int (0 : Int32)) (.int (0 : Int32)) (.int (0 : Int32))) :: cs) := H70.pull 4 _ rfl rfl
      refine Own.W.callV ok tb (a := a43) (argsL := [(.ref a53)]) (rest := []) 30 31 33 32 34 2 rfl rfl rfl rfl rfl rfl (notFace_of_selects (args := #[]) (mvT ok.2.1 (tb _ (List.mem_of_getElem? (i := 33) rfl)))) (H71.exa (i := 0) rfl) at_76 pd_12 (c_dp2 l tb a43 a48 a53 nP nC eL b62 d63 mr k64 u0 u u1 u2 h60 (cs) H71 M hq66) 0 6 54 79 ?_
      rintro _ h72 ⟨g74, k75, rfl, H73⟩
      show Own.W l Z _ K _ h72 6 54 79 #[.val (.int u0), .val (.int u1), .val (.int u2), .val (.int u3), .val (.int (1 : Int32)), .val (.int u), .val (.ref a43), .val (.ref a48), .val (.ref a53), .unset, .unset] []
      refine Own.W.aload ok at_79 81 rfl rfl ?_
      refine Own.W.callS ok tb (argsL := [(.ref a43)]) (rest := []) 139 140 141 142 rfl rfl rfl rfl at_81 pd_16 (c_fs l tb a43 b62 nP nC nS nR u0 u h72 ((a53, o_Sync (.ref nP) (.ref nC) (.ref eL) (.int u2) (.int (0 : Int32)) (.ref a43) (.int (0 : Int32)) (.int (0 : Int32)) .null (.int (0 : Int32)) (.int (0 : Int32)) (.int (0 : Int32)) (.int (0 : Int32))) :: (b62, o_AL (.int (2 : Int32)) (.ref g74) (.int (2 : Int32))) :: (g74, .inr ((.object "java/lang/Object"), k75, [(.ref a48), (.ref a53)])) :: (d63, .inr ((.object "java/lang/Object"), k64, [(.ref a48)])) :: (a48, o_Sync (.ref nP) (.ref nC) (.ref eL) (.int u1) (.int (0 : Int32)) (.ref a43) (.int (0 : Int32)) (.int (0 : Int32)) .null (.int (0 : Int32)) (.int (0 : Int32)) (.int (0 : Int32)) (.int (0 : Int32))) :: cs) H73 SN SR) 0 7 66 84 ?_
      rintro _ h76 ⟨t78, rfl, H77⟩
      show Own.W l Z _ K _ h76 7 66 84 #[.val (.int u0), .val (.int u1), .val (.int u2), .val (.int u3), .val (.int (1 : Int32)), .val (.int u), .val (.ref a43), .val (.ref a48), .val (.ref a53), .unset, .unset] [(.ref t78)]
      refine Own.W.pop ok at_84 85 rfl ?_
      refine Own.W.aload ok at_85 87 rfl rfl ?_
      have H79 : Own.HS Z h76 ((t78, o_Unit (.ref nS) (.ref nR) (.int (1 : Int32)) (.ref a43) (.int (0 : Int32)) (.int (1 : Int32))) :: (a43, o_Sync (.ref nP) (.ref nC) (.ref b62) (.int u0) (.int u) .null (.int (0 : Int32)) (.int (0 : Int32)) (.ref t78) (.int (0 : Int32)) (.int (0 : Int32)) (.int (0 : Int32)) (.int (0 : Int32))) :: (a53, o_Sync (.ref nP) (.ref nC) (.ref eL) (.int u2) (.int (0 : Int32)) (.ref a43) (.int (0 : Int32)) (.int (0 : Int32)) .null (.int (0 : Int32)) (.int (0 : Int32)) (.int (0 : Int32)) (.int (0 : Int32))) :: (b62, o_AL (.int (2 : Int32)) (.ref g74) (.int (2 : Int32))) :: (g74, .inr ((.object "java/lang/Object"), k75, [(.ref a48), (.ref a53)])) :: (d63, .inr ((.object "java/lang/Object"), k64, [(.ref a48)])) :: (a48, o_Sync (.ref nP) (.ref nC) (.ref eL) (.int u1) (.int (0 : Int32)) (.ref a43) (.int (0 : Int32)) (.int (0 : Int32)) .null (.int (0 : Int32)) (.int (0 : Int32)) (.int (0 : Int32)) (.int (0 : Int32))) :: cs) := H77.pull 1 _ rfl rfl
      have H80 : Own.HS Z h76 ((a43, o_Sync (.ref nP) (.ref nC) (.ref b62) (.int u0) (.int u) .null (.int (0 : Int32)) (.int (0 : Int32)) (.ref t78) (.int (0 : Int32)) (.int (0 : Int32)) (.int (0 : Int32)) (.int (0 : Int32))) :: (t78, o_Unit (.ref nS) (.ref nR) (.int (1 : Int32)) (.ref a43) (.int (0 : Int32)) (.int (1 : Int32))) :: (a53, o_Sync (.ref nP) (.ref nC) (.ref eL) (.int u2) (.int (0 : Int32)) (.ref a43) (.int (0 : Int32)) (.int (0 : Int32)) .null (.int (0 : Int32)) (.int (0 : Int32)) (.int (0 : Int32)) (.int (0 : Int32))) :: (b62, o_AL (.int (2 : Int32)) (.ref g74) (.int (2 : Int32))) :: (g74, .inr ((.object "java/lang/Object"), k75, [(.ref a48), (.ref a53)])) :: (d63, .inr ((.object "java/lang/Object"), k64, [(.ref a48)])) :: (a48, o_Sync (.ref nP) (.ref nC) (.ref eL) (.int u1) (.int (0 : Int32)) (.ref a43) (.int (0 : Int32)) (.int (0 : Int32)) .null (.int (0 : Int32)) (.int (0 : Int32)) (.int (0 : Int32)) (.int (0 : Int32))) :: cs) := H79.pull 1 _ rfl rfl
      refine Own.W.callV ok tb (a := a43) (argsL := []) (rest := []) 197 198 200 199 201 2 rfl rfl rfl rfl rfl rfl (notFace_of_selects (args := #[]) (mvT ok.2.1 (tb _ (List.mem_of_getElem? (i := 200) rfl)))) (H80.exa (i := 0) rfl) at_87 pd_1 (c_sr l tb a43 t78 b62 nP nC nS nR u0 u h76 ((a53, o_Sync (.ref nP) (.ref nC) (.ref eL) (.int u2) (.int (0 : Int32)) (.ref a43) (.int (0 : Int32)) (.int (0 : Int32)) .null (.int (0 : Int32)) (.int (0 : Int32)) (.int (0 : Int32)) (.int (0 : Int32))) :: (b62, o_AL (.int (2 : Int32)) (.ref g74) (.int (2 : Int32))) :: (g74, .inr ((.object "java/lang/Object"), k75, [(.ref a48), (.ref a53)])) :: (d63, .inr ((.object "java/lang/Object"), k64, [(.ref a48)])) :: (a48, o_Sync (.ref nP) (.ref nC) (.ref eL) (.int u1) (.int (0 : Int32)) (.ref a43) (.int (0 : Int32)) (.int (0 : Int32)) .null (.int (0 : Int32)) (.int (0 : Int32)) (.int (0 : Int32)) (.int (0 : Int32))) :: cs) H80) 0 7 66 90 ?_
      rintro _ h81 ⟨rfl, H82⟩
      show Own.W l Z _ K _ h81 7 66 90 #[.val (.int u0), .val (.int u1), .val (.int u2), .val (.int u3), .val (.int (1 : Int32)), .val (.int u), .val (.ref a43), .val (.ref a48), .val (.ref a53), .unset, .unset] []
      refine Own.W.aload ok at_90 92 rfl rfl ?_
      have H83 : Own.HS Z h81 ((b62, o_AL (.int (2 : Int32)) (.ref g74) (.int (2 : Int32))) :: (a43, o_Sync (.ref nP) (.ref nC) (.ref b62) (.int u0) (.int u) .null (.int (0 : Int32)) (.int (1 : Int32)) (.ref t78) (.int (0 : Int32)) (.int (0 : Int32)) (.int (0 : Int32)) (.int (0 : Int32))) :: (t78, o_Unit (.ref nS) (.ref nR) (.int (1 : Int32)) (.ref a43) (.int (0 : Int32)) (.int (0 : Int32))) :: (a53, o_Sync (.ref nP) (.ref nC) (.ref eL) (.int u2) (.int (0 : Int32)) (.ref a43) (.int (0 : Int32)) (.int (0 : Int32)) .null (.int (0 : Int32)) (.int (0 : Int32)) (.int (0 : Int32)) (.int (0 : Int32))) :: (g74, .inr ((.object "java/lang/Object"), k75, [(.ref a48), (.ref a53)])) :: (d63, .inr ((.object "java/lang/Object"), k64, [(.ref a48)])) :: (a48, o_Sync (.ref nP) (.ref nC) (.ref eL) (.int u1) (.int (0 : Int32)) (.ref a43) (.int (0 : Int32)) (.int (0 : Int32)) .null (.int (0 : Int32)) (.int (0 : Int32)) (.int (0 : Int32)) (.int (0 : Int32))) :: cs) := H82.pull 3 _ rfl rfl
      have H84 : Own.HS Z h81 ((a43, o_Sync (.ref nP) (.ref nC) (.ref b62) (.int u0) (.int u) .null (.int (0 : Int32)) (.int (1 : Int32)) (.ref t78) (.int (0 : Int32)) (.int (0 : Int32)) (.int (0 : Int32)) (.int (0 : Int32))) :: (b62, o_AL (.int (2 : Int32)) (.ref g74) (.int (2 : Int32))) :: (t78, o_Unit (.ref nS) (.ref nR) (.int (1 : Int32)) (.ref a43) (.int (0 : Int32)) (.int (0 : Int32))) :: (a53, o_Sync (.ref nP) (.ref nC) (.ref eL) (.int u2) (.int (0 : Int32)) (.ref a43) (.int (0 : Int32)) (.int (0 : Int32)) .null (.int (0 : Int32)) (.int (0 : Int32)) (.int (0 : Int32)) (.int (0 : Int32))) :: (g74, .inr ((.object "java/lang/Object"), k75, [(.ref a48), (.ref a53)])) :: (d63, .inr ((.object "java/lang/Object"), k64, [(.ref a48)])) :: (a48, o_Sync (.ref nP) (.ref nC) (.ref eL) (.int u1) (.int (0 : Int32)) (.ref a43) (.int (0 : Int32)) (.int (0 : Int32)) .null (.int (0 : Int32)) (.int (0 : Int32)) (.int (0 : Int32)) (.int (0 : Int32))) :: cs) := H83.pull 1 _ rfl rfl
      refine Own.W.callV ok tb (a := a43) (argsL := []) (rest := []) 207 208 210 209 211 2 rfl rfl rfl rfl rfl rfl (notFace_of_selects (args := #[]) (mvT ok.2.1 (tb _ (List.mem_of_getElem? (i := 210) rfl)))) (H84.exa (i := 0) rfl) at_92 pd_9 (c_wh0 l tb a43 b62 t78 g74 nP nC u0 u (0 : Int32) (2 : Int32) h81 ((t78, o_Unit (.ref nS) (.ref nR) (.int (1 : Int32)) (.ref a43) (.int (0 : Int32)) (.int (0 : Int32))) :: (a53, o_Sync (.ref nP) (.ref nC) (.ref eL) (.int u2) (.int (0 : Int32)) (.ref a43) (.int (0 : Int32)) (.int (0 : Int32)) .null (.int (0 : Int32)) (.int (0 : Int32)) (.int (0 : Int32)) (.int (0 : Int32))) :: (g74, .inr ((.object "java/lang/Object"), k75, [(.ref a48), (.ref a53)])) :: (d63, .inr ((.object "java/lang/Object"), k64, [(.ref a48)])) :: (a48, o_Sync (.ref nP) (.ref nC) (.ref eL) (.int u1) (.int (0 : Int32)) (.ref a43) (.int (0 : Int32)) (.int (0 : Int32)) .null (.int (0 : Int32)) (.int (0 : Int32)) (.int (0 : Int32)) (.int (0 : Int32))) :: cs) H84 (by decide)) 0 7 66 95 ?_
      rintro _ _ ⟨rfl, rfl⟩
      show Own.W l Z _ K _ h81 7 66 95 #[.val (.int u0), .val (.int u1), .val (.int u2), .val (.int u3), .val (.int (1 : Int32)), .val (.int u), .val (.ref a43), .val (.ref a48), .val (.ref a53), .unset, .unset] [(.int (0 : Int32))]
      refine Own.W.ifF ok at_95 98 (by decide : (0 : Int32) = (0 : Int32)) ?_
      refine Own.W.aload ok at_98 100 rfl rfl ?_
      refine Own.W.callV ok tb (a := a48) (argsL := []) (rest := []) 226 227 229 228 230 2 rfl rfl rfl rfl rfl rfl (notFace_of_selects (args := #[]) (mvT ok.2.1 (tb _ (List.mem_of_getElem? (i := 229) rfl)))) (H84.exa (i := 6) rfl) at_100 pd_9 (c_ended l tb a48 (0 : Int32) h81 (H84.fld (i := 6) (j := 12) rfl rfl) (Or.inl rfl)) 0 7 66 103 ?_
      rintro _ _ ⟨rfl, rfl⟩
      show Own.W l Z _ K _ h81 7 66 103 #[.val (.int u0), .val (.int u1), .val (.int u2), .val (.int u3), .val (.int (1 : Int32)), .val (.int u), .val (.ref a43), .val (.ref a48), .val (.ref a53), .unset, .unset] [(.int (0 : Int32))]
      refine Own.W.ifF ok at_103 106 (by decide : (0 : Int32) = (0 : Int32)) ?_
      refine Own.W.aload ok at_106 108 rfl rfl ?_
      refine Own.W.callV ok tb (a := a53) (argsL := []) (rest := []) 226 227 229 228 230 2 rfl rfl rfl rfl rfl rfl (notFace_of_selects (args := #[]) (mvT ok.2.1 (tb _ (List.mem_of_getElem? (i := 229) rfl)))) (H84.exa (i := 3) rfl) at_108 pd_9 (c_ended l tb a53 (0 : Int32) h81 (H84.fld (i := 3) (j := 12) rfl rfl) (Or.inl rfl)) 0 7 66 111 ?_
      rintro _ _ ⟨rfl, rfl⟩
      show Own.W l Z _ K _ h81 7 66 111 #[.val (.int u0), .val (.int u1), .val (.int u2), .val (.int u3), .val (.int (1 : Int32)), .val (.int u), .val (.ref a43), .val (.ref a48), .val (.ref a53), .unset, .unset] [(.int (0 : Int32))]
      refine Own.W.ifF ok at_111 114 (by decide : (0 : Int32) = (0 : Int32)) ?_
      refine Own.W.aload ok at_114 116 rfl rfl ?_
      refine Own.W.callV ok tb (a := a43) (argsL := []) (rest := []) 226 227 229 228 230 2 rfl rfl rfl rfl rfl rfl (notFace_of_selects (args := #[]) (mvT ok.2.1 (tb _ (List.mem_of_getElem? (i := 229) rfl)))) (H84.exa (i := 0) rfl) at_116 pd_9 (c_ended l tb a43 (0 : Int32) h81 (H84.fld (i := 0) (j := 12) rfl rfl) (Or.inl rfl)) 0 7 66 119 ?_
      rintro _ _ ⟨rfl, rfl⟩
      show Own.W l Z _ K _ h81 7 66 119 #[.val (.int u0), .val (.int u1), .val (.int u2), .val (.int u3), .val (.int (1 : Int32)), .val (.int u), .val (.ref a43), .val (.ref a48), .val (.ref a53), .unset, .unset] [(.int (0 : Int32))]
      refine Own.W.ifF ok at_119 122 (by decide : (0 : Int32) = (0 : Int32)) ?_
      refine Own.W.iconst ok at_122 123 (1 : Int32) rfl ?_
      refine Own.W.goto ok at_123 127 ?_
      refine Own.W.istore ok at_127 129 #[.val (.int u0), .val (.int u1), .val (.int u2), .val (.int u3), .val (.int (1 : Int32)), .val (.int u), .val (.ref a43), .val (.ref a48), .val (.ref a53), .val (.int (1 : Int32)), .unset] rfl ?_
      refine Own.W.aload ok at_129 131 rfl rfl ?_
      have H85 : Own.HS Z h81 ((a48, o_Sync (.ref nP) (.ref nC) (.ref eL) (.int u1) (.int (0 : Int32)) (.ref a43) (.int (0 : Int32)) (.int (0 : Int32)) .null (.int (0 : Int32)) (.int (0 : Int32)) (.int (0 : Int32)) (.int (0 : Int32))) :: (a43, o_Sync (.ref nP) (.ref nC) (.ref b62) (.int u0) (.int u) .null (.int (0 : Int32)) (.int (1 : Int32)) (.ref t78) (.int (0 : Int32)) (.int (0 : Int32)) (.int (0 : Int32)) (.int (0 : Int32))) :: (b62, o_AL (.int (2 : Int32)) (.ref g74) (.int (2 : Int32))) :: (t78, o_Unit (.ref nS) (.ref nR) (.int (1 : Int32)) (.ref a43) (.int (0 : Int32)) (.int (0 : Int32))) :: (a53, o_Sync (.ref nP) (.ref nC) (.ref eL) (.int u2) (.int (0 : Int32)) (.ref a43) (.int (0 : Int32)) (.int (0 : Int32)) .null (.int (0 : Int32)) (.int (0 : Int32)) (.int (0 : Int32)) (.int (0 : Int32))) :: (g74, .inr ((.object "java/lang/Object"), k75, [(.ref a48), (.ref a53)])) :: (d63, .inr ((.object "java/lang/Object"), k64, [(.ref a48)])) :: cs) := H84.pull 6 _ rfl rfl
      refine Own.W.callV ok tb (a := a48) (argsL := []) (rest := []) 233 234 236 235 237 2 rfl rfl rfl rfl rfl rfl (notFace_of_selects (args := #[]) (mvT ok.2.1 (tb _ (List.mem_of_getElem? (i := 236) rfl)))) (H85.exa (i := 0) rfl) at_131 pd_1 (c_eac l tb a48 a43 b62 t78 nP nC eL u0 u u1 (0 : Int32) (1 : Int32) h81 ((b62, o_AL (.int (2 : Int32)) (.ref g74) (.int (2 : Int32))) :: (t78, o_Unit (.ref nS) (.ref nR) (.int (1 : Int32)) (.ref a43) (.int (0 : Int32)) (.int (0 : Int32))) :: (a53, o_Sync (.ref nP) (.ref nC) (.ref eL) (.int u2) (.int (0 : Int32)) (.ref a43) (.int (0 : Int32)) (.int (0 : Int32)) .null (.int (0 : Int32)) (.int (0 : Int32)) (.int (0 : Int32)) (.int (0 : Int32))) :: (g74, .inr ((.object "java/lang/Object"), k75, [(.ref a48), (.ref a53)])) :: (d63, .inr ((.object "java/lang/Object"), k64, [(.ref a48)])) :: cs) H85 (by decide)) 0 7 66 134 ?_
      rintro _ h86 ⟨rfl, H87⟩
      show Own.W l Z _ K _ h86 7 66 134 #[.val (.int u0), .val (.int u1), .val (.int u2), .val (.int u3), .val (.int (1 : Int32)), .val (.int u), .val (.ref a43), .val (.ref a48), .val (.ref a53), .val (.int (1 : Int32)), .unset] []
      refine Own.W.aload ok at_134 136 rfl rfl ?_
      refine Own.W.callV ok tb (a := a48) (argsL := []) (rest := []) 226 227 229 228 230 2 rfl rfl rfl rfl rfl rfl (notFace_of_selects (args := #[]) (mvT ok.2.1 (tb _ (List.mem_of_getElem? (i := 229) rfl)))) (H87.exa (i := 0) rfl) at_136 pd_9 (c_ended l tb a48 (1 : Int32) h86 (H87.fld (i := 0) (j := 12) rfl rfl) (Or.inr rfl)) 0 7 66 139 ?_
      rintro _ _ ⟨rfl, rfl⟩
      show Own.W l Z _ K _ h86 7 66 139 #[.val (.int u0), .val (.int u1), .val (.int u2), .val (.int u3), .val (.int (1 : Int32)), .val (.int u), .val (.ref a43), .val (.ref a48), .val (.ref a53), .val (.int (1 : Int32)), .unset] [(.int (1 : Int32))]
      refine Own.W.ifF ok at_139 142 (by decide : ¬ ((1 : Int32) = (0 : Int32))) ?_
      refine Own.W.aload ok at_142 144 rfl rfl ?_
      refine Own.W.callV ok tb (a := a43) (argsL := []) (rest := []) 226 227 229 228 230 2 rfl rfl rfl rfl rfl rfl (notFace_of_selects (args := #[]) (mvT ok.2.1 (tb _ (List.mem_of_getElem? (i := 229) rfl)))) (H87.exa (i := 1) rfl) at_144 pd_9 (c_ended l tb a43 (0 : Int32) h86 (H87.fld (i := 1) (j := 12) rfl rfl) (Or.inl rfl)) 0 7 66 147 ?_
      rintro _ _ ⟨rfl, rfl⟩
      show Own.W l Z _ K _ h86 7 66 147 #[.val (.int u0), .val (.int u1), .val (.int u2), .val (.int u3), .val (.int (1 : Int32)), .val (.int u), .val (.ref a43), .val (.ref a48), .val (.ref a53), .val (.int (1 : Int32)), .unset] [(.int (0 : Int32))]
      refine Own.W.ifF ok at_147 150 (by decide : (0 : Int32) = (0 : Int32)) ?_
      refine Own.W.aload ok at_150 152 rfl rfl ?_
      refine Own.W.callV ok tb (a := a53) (argsL := []) (rest := []) 226 227 229 228 230 2 rfl rfl rfl rfl rfl rfl (notFace_of_selects (args := #[]) (mvT ok.2.1 (tb _ (List.mem_of_getElem? (i := 229) rfl)))) (H87.exa (i := 4) rfl) at_152 pd_9 (c_ended l tb a53 (0 : Int32) h86 (H87.fld (i := 4) (j := 12) rfl rfl) (Or.inl rfl)) 0 7 66 155 ?_
      rintro _ _ ⟨rfl, rfl⟩
      show Own.W l Z _ K _ h86 7 66 155 #[.val (.int u0), .val (.int u1), .val (.int u2), .val (.int u3), .val (.int (1 : Int32)), .val (.int u), .val (.ref a43), .val (.ref a48), .val (.ref a53), .val (.int (1 : Int32)), .unset] [(.int (0 : Int32))]
      refine Own.W.ifF ok at_155 158 (by decide : (0 : Int32) = (0 : Int32)) ?_
      refine Own.W.aload ok at_158 160 rfl rfl ?_
      refine Own.W.callV ok tb (a := a48) (argsL := []) (rest := []) 238 182 184 183 185 2 rfl rfl rfl rfl rfl rfl (notFace_of_selects (args := #[]) (mvT ok.2.1 (tb _ (List.mem_of_getElem? (i := 184) rfl)))) (H87.exa (i := 0) rfl) at_160 pd_9 (c_ready l tb a48 (0 : Int32) h86 (H87.fld (i := 0) (j := 7) rfl rfl) (Or.inl rfl)) 0 7 66 163 ?_
      rintro _ _ ⟨rfl, rfl⟩
      show Own.W l Z _ K _ h86 7 66 163 #[.val (.int u0), .val (.int u1), .val (.int u2), .val (.int u3), .val (.int (1 : Int32)), .val (.int u), .val (.ref a43), .val (.ref a48), .val (.ref a53), .val (.int (1 : Int32)), .unset] [(.int (0 : Int32))]
      refine Own.W.ifF ok at_163 166 (by decide : (0 : Int32) = (0 : Int32)) ?_
      refine Own.W.aload ok at_166 168 rfl rfl ?_
      refine Own.W.callV ok tb (a := a48) (argsL := []) (rest := []) 239 240 242 241 243 2 rfl rfl rfl rfl rfl rfl (notFace_of_selects (args := #[]) (mvT ok.2.1 (tb _ (List.mem_of_getElem? (i := 242) rfl)))) (H87.exa (i := 0) rfl) at_168 pd_17 (c_par l tb a48 a43 h86 (H87.fld (i := 0) (j := 5) rfl rfl)) 0 7 66 171 ?_
      rintro _ _ ⟨rfl, rfl⟩
      show Own.W l Z _ K _ h86 7 66 171 #[.val (.int u0), .val (.int u1), .val (.int u2), .val (.int u3), .val (.int (1 : Int32)), .val (.int u), .val (.ref a43), .val (.ref a48), .val (.ref a53), .val (.int (1 : Int32)), .unset] [(.ref a43)]
      refine Own.W.aload ok at_171 173 rfl rfl ?_
      refine Own.W.acmp ok at_173 176 true (decide_eq_true rfl) ?_
      refine Own.W.aload ok at_176 178 rfl rfl ?_
      have H88 : Own.HS Z h86 ((b62, o_AL (.int (2 : Int32)) (.ref g74) (.int (2 : Int32))) :: (a48, o_Sync (.ref nP) (.ref nC) (.ref eL) (.int u1) (.int (0 : Int32)) (.ref a43) (.int (0 : Int32)) (.int (0 : Int32)) .null (.int (0 : Int32)) (.int (0 : Int32)) (.int (0 : Int32)) (.int (1 : Int32))) :: (a43, o_Sync (.ref nP) (.ref nC) (.ref b62) (.int u0) (.int u) .null (.int (0 : Int32)) (.int (1 : Int32)) (.ref t78) (.int (0 : Int32)) (.int (0 : Int32)) (.int (1 : Int32)) (.int (0 : Int32))) :: (t78, o_Unit (.ref nS) (.ref nR) (.int (1 : Int32)) (.ref a43) (.int (0 : Int32)) (.int (0 : Int32))) :: (a53, o_Sync (.ref nP) (.ref nC) (.ref eL) (.int u2) (.int (0 : Int32)) (.ref a43) (.int (0 : Int32)) (.int (0 : Int32)) .null (.int (0 : Int32)) (.int (0 : Int32)) (.int (0 : Int32)) (.int (0 : Int32))) :: (g74, .inr ((.object "java/lang/Object"), k75, [(.ref a48), (.ref a53)])) :: (d63, .inr ((.object "java/lang/Object"), k64, [(.ref a48)])) :: cs) := H87.pull 2 _ rfl rfl
      have H89 : Own.HS Z h86 ((a43, o_Sync (.ref nP) (.ref nC) (.ref b62) (.int u0) (.int u) .null (.int (0 : Int32)) (.int (1 : Int32)) (.ref t78) (.int (0 : Int32)) (.int (0 : Int32)) (.int (1 : Int32)) (.int (0 : Int32))) :: (b62, o_AL (.int (2 : Int32)) (.ref g74) (.int (2 : Int32))) :: (a48, o_Sync (.ref nP) (.ref nC) (.ref eL) (.int u1) (.int (0 : Int32)) (.ref a43) (.int (0 : Int32)) (.int (0 : Int32)) .null (.int (0 : Int32)) (.int (0 : Int32)) (.int (0 : Int32)) (.int (1 : Int32))) :: (t78, o_Unit (.ref nS) (.ref nR) (.int (1 : Int32)) (.ref a43) (.int (0 : Int32)) (.int (0 : Int32))) :: (a53, o_Sync (.ref nP) (.ref nC) (.ref eL) (.int u2) (.int (0 : Int32)) (.ref a43) (.int (0 : Int32)) (.int (0 : Int32)) .null (.int (0 : Int32)) (.int (0 : Int32)) (.int (0 : Int32)) (.int (0 : Int32))) :: (g74, .inr ((.object "java/lang/Object"), k75, [(.ref a48), (.ref a53)])) :: (d63, .inr ((.object "java/lang/Object"), k64, [(.ref a48)])) :: cs) := H88.pull 2 _ rfl rfl
      refine Own.W.callV ok tb (a := a43) (argsL := []) (rest := []) 207 208 210 209 211 2 rfl rfl rfl rfl rfl rfl (notFace_of_selects (args := #[]) (mvT ok.2.1 (tb _ (List.mem_of_getElem? (i := 210) rfl)))) (H89.exa (i := 0) rfl) at_178 pd_9 (c_wh0 l tb a43 b62 t78 g74 nP nC u0 u (1 : Int32) (2 : Int32) h86 ((a48, o_Sync (.ref nP) (.ref nC) (.ref eL) (.int u1) (.int (0 : Int32)) (.ref a43) (.int (0 : Int32)) (.int (0 : Int32)) .null (.int (0 : Int32)) (.int (0 : Int32)) (.int (0 : Int32)) (.int (1 : Int32))) :: (t78, o_Unit (.ref nS) (.ref nR) (.int (1 : Int32)) (.ref a43) (.int (0 : Int32)) (.int (0 : Int32))) :: (a53, o_Sync (.ref nP) (.ref nC) (.ref eL) (.int u2) (.int (0 : Int32)) (.ref a43) (.int (0 : Int32)) (.int (0 : Int32)) .null (.int (0 : Int32)) (.int (0 : Int32)) (.int (0 : Int32)) (.int (0 : Int32))) :: (g74, .inr ((.object "java/lang/Object"), k75, [(.ref a48), (.ref a53)])) :: (d63, .inr ((.object "java/lang/Object"), k64, [(.ref a48)])) :: cs) H89 (by decide)) 0 7 66 181 ?_
      rintro _ _ ⟨rfl, rfl⟩
      show Own.W l Z _ K _ h86 7 66 181 #[.val (.int u0), .val (.int u1), .val (.int u2), .val (.int u3), .val (.int (1 : Int32)), .val (.int u), .val (.ref a43), .val (.ref a48), .val (.ref a53), .val (.int (1 : Int32)), .unset] [(.int (0 : Int32))]
      refine Own.W.iload ok at_181 183 rfl ?_
      refine Own.W.ifT ok at_183 190 (by decide : ¬ ((1 : Int32) = (0 : Int32))) ?_
      refine Own.W.iconst ok at_190 191 (0 : Int32) rfl ?_
      refine Own.W.icmpF ok at_191 194 (by decide : (0 : Int32) = (0 : Int32)) ?_
      refine Own.W.iconst ok at_194 195 (1 : Int32) rfl ?_
      refine Own.W.goto ok at_195 199 ?_
      refine Own.W.istore ok at_199 201 #[.val (.int u0), .val (.int u1), .val (.int u2), .val (.int u3), .val (.int (1 : Int32)), .val (.int u), .val (.ref a43), .val (.ref a48), .val (.ref a53), .val (.int (1 : Int32)), .val (.int (1 : Int32))] rfl ?_
      refine Own.W.iload ok at_201 203 rfl ?_
      refine Own.W.ifT ok at_203 222 (by decide : ¬ ((1 : Int32) = (0 : Int32))) ?_
      refine Own.W.aload ok at_222 224 rfl rfl ?_
      have H90 : Own.HS Z h86 ((a53, o_Sync (.ref nP) (.ref nC) (.ref eL) (.int u2) (.int (0 : Int32)) (.ref a43) (.int (0 : Int32)) (.int (0 : Int32)) .null (.int (0 : Int32)) (.int (0 : Int32)) (.int (0 : Int32)) (.int (0 : Int32))) :: (a43, o_Sync (.ref nP) (.ref nC) (.ref b62) (.int u0) (.int u) .null (.int (0 : Int32)) (.int (1 : Int32)) (.ref t78) (.int (0 : Int32)) (.int (0 : Int32)) (.int (1 : Int32)) (.int (0 : Int32))) :: (b62, o_AL (.int (2 : Int32)) (.ref g74) (.int (2 : Int32))) :: (a48, o_Sync (.ref nP) (.ref nC) (.ref eL) (.int u1) (.int (0 : Int32)) (.ref a43) (.int (0 : Int32)) (.int (0 : Int32)) .null (.int (0 : Int32)) (.int (0 : Int32)) (.int (0 : Int32)) (.int (1 : Int32))) :: (t78, o_Unit (.ref nS) (.ref nR) (.int (1 : Int32)) (.ref a43) (.int (0 : Int32)) (.int (0 : Int32))) :: (g74, .inr ((.object "java/lang/Object"), k75, [(.ref a48), (.ref a53)])) :: (d63, .inr ((.object "java/lang/Object"), k64, [(.ref a48)])) :: cs) := H89.pull 4 _ rfl rfl
      refine Own.W.callV ok tb (a := a53) (argsL := []) (rest := []) 233 234 236 235 237 2 rfl rfl rfl rfl rfl rfl (notFace_of_selects (args := #[]) (mvT ok.2.1 (tb _ (List.mem_of_getElem? (i := 236) rfl)))) (H90.exa (i := 0) rfl) at_224 pd_1 (c_eac l tb a53 a43 b62 t78 nP nC eL u0 u u2 (1 : Int32) (2 : Int32) h86 ((b62, o_AL (.int (2 : Int32)) (.ref g74) (.int (2 : Int32))) :: (a48, o_Sync (.ref nP) (.ref nC) (.ref eL) (.int u1) (.int (0 : Int32)) (.ref a43) (.int (0 : Int32)) (.int (0 : Int32)) .null (.int (0 : Int32)) (.int (0 : Int32)) (.int (0 : Int32)) (.int (1 : Int32))) :: (t78, o_Unit (.ref nS) (.ref nR) (.int (1 : Int32)) (.ref a43) (.int (0 : Int32)) (.int (0 : Int32))) :: (g74, .inr ((.object "java/lang/Object"), k75, [(.ref a48), (.ref a53)])) :: (d63, .inr ((.object "java/lang/Object"), k64, [(.ref a48)])) :: cs) H90 (by decide)) 0 7 66 227 ?_
      rintro _ h91 ⟨rfl, H92⟩
      show Own.W l Z _ K _ h91 7 66 227 #[.val (.int u0), .val (.int u1), .val (.int u2), .val (.int u3), .val (.int (1 : Int32)), .val (.int u), .val (.ref a43), .val (.ref a48), .val (.ref a53), .val (.int (1 : Int32)), .val (.int (1 : Int32))] []
      refine Own.W.iload ok at_227 229 rfl ?_
      refine Own.W.ifF ok at_229 232 (by decide : ¬ ((1 : Int32) = (0 : Int32))) ?_
      refine Own.W.iload ok at_232 234 rfl ?_
      refine Own.W.ifF ok at_234 237 (by decide : ¬ ((1 : Int32) = (0 : Int32))) ?_
      refine Own.W.aload ok at_237 239 rfl rfl ?_
      refine Own.W.callV ok tb (a := a53) (argsL := []) (rest := []) 226 227 229 228 230 2 rfl rfl rfl rfl rfl rfl (notFace_of_selects (args := #[]) (mvT ok.2.1 (tb _ (List.mem_of_getElem? (i := 229) rfl)))) (H92.exa (i := 0) rfl) at_239 pd_9 (c_ended l tb a53 (1 : Int32) h91 (H92.fld (i := 0) (j := 12) rfl rfl) (Or.inr rfl)) 0 7 66 242 ?_
      rintro _ _ ⟨rfl, rfl⟩
      show Own.W l Z _ K _ h91 7 66 242 #[.val (.int u0), .val (.int u1), .val (.int u2), .val (.int u3), .val (.int (1 : Int32)), .val (.int u), .val (.ref a43), .val (.ref a48), .val (.ref a53), .val (.int (1 : Int32)), .val (.int (1 : Int32))] [(.int (1 : Int32))]
      refine Own.W.ifF ok at_242 245 (by decide : ¬ ((1 : Int32) = (0 : Int32))) ?_
      refine Own.W.aload ok at_245 247 rfl rfl ?_
      refine Own.W.callV ok tb (a := a48) (argsL := []) (rest := []) 226 227 229 228 230 2 rfl rfl rfl rfl rfl rfl (notFace_of_selects (args := #[]) (mvT ok.2.1 (tb _ (List.mem_of_getElem? (i := 229) rfl)))) (H92.exa (i := 3) rfl) at_247 pd_9 (c_ended l tb a48 (1 : Int32) h91 (H92.fld (i := 3) (j := 12) rfl rfl) (Or.inr rfl)) 0 7 66 250 ?_
      rintro _ _ ⟨rfl, rfl⟩
      show Own.W l Z _ K _ h91 7 66 250 #[.val (.int u0), .val (.int u1), .val (.int u2), .val (.int u3), .val (.int (1 : Int32)), .val (.int u), .val (.ref a43), .val (.ref a48), .val (.ref a53), .val (.int (1 : Int32)), .val (.int (1 : Int32))] [(.int (1 : Int32))]
      refine Own.W.ifF ok at_250 253 (by decide : ¬ ((1 : Int32) = (0 : Int32))) ?_
      refine Own.W.aload ok at_253 255 rfl rfl ?_
      refine Own.W.callV ok tb (a := a43) (argsL := []) (rest := []) 226 227 229 228 230 2 rfl rfl rfl rfl rfl rfl (notFace_of_selects (args := #[]) (mvT ok.2.1 (tb _ (List.mem_of_getElem? (i := 229) rfl)))) (H92.exa (i := 1) rfl) at_255 pd_9 (c_ended l tb a43 (0 : Int32) h91 (H92.fld (i := 1) (j := 12) rfl rfl) (Or.inl rfl)) 0 7 66 258 ?_
      rintro _ _ ⟨rfl, rfl⟩
      show Own.W l Z _ K _ h91 7 66 258 #[.val (.int u0), .val (.int u1), .val (.int u2), .val (.int u3), .val (.int (1 : Int32)), .val (.int u), .val (.ref a43), .val (.ref a48), .val (.ref a53), .val (.int (1 : Int32)), .val (.int (1 : Int32))] [(.int (0 : Int32))]
      refine Own.W.ifF ok at_258 261 (by decide : (0 : Int32) = (0 : Int32)) ?_
      refine Own.W.aload ok at_261 263 rfl rfl ?_
      have H93 : Own.HS Z h91 ((b62, o_AL (.int (2 : Int32)) (.ref g74) (.int (2 : Int32))) :: (a53, o_Sync (.ref nP) (.ref nC) (.ref eL) (.int u2) (.int (0 : Int32)) (.ref a43) (.int (0 : Int32)) (.int (0 : Int32)) .null (.int (0 : Int32)) (.int (0 : Int32)) (.int (0 : Int32)) (.int (1 : Int32))) :: (a43, o_Sync (.ref nP) (.ref nC) (.ref b62) (.int u0) (.int u) .null (.int (0 : Int32)) (.int (1 : Int32)) (.ref t78) (.int (0 : Int32)) (.int (0 : Int32)) (.int (2 : Int32)) (.int (0 : Int32))) :: (a48, o_Sync (.ref nP) (.ref nC) (.ref eL) (.int u1) (.int (0 : Int32)) (.ref a43) (.int (0 : Int32)) (.int (0 : Int32)) .null (.int (0 : Int32)) (.int (0 : Int32)) (.int (0 : Int32)) (.int (1 : Int32))) :: (t78, o_Unit (.ref nS) (.ref nR) (.int (1 : Int32)) (.ref a43) (.int (0 : Int32)) (.int (0 : Int32))) :: (g74, .inr ((.object "java/lang/Object"), k75, [(.ref a48), (.ref a53)])) :: (d63, .inr ((.object "java/lang/Object"), k64, [(.ref a48)])) :: cs) := H92.pull 2 _ rfl rfl
      have H94 : Own.HS Z h91 ((a43, o_Sync (.ref nP) (.ref nC) (.ref b62) (.int u0) (.int u) .null (.int (0 : Int32)) (.int (1 : Int32)) (.ref t78) (.int (0 : Int32)) (.int (0 : Int32)) (.int (2 : Int32)) (.int (0 : Int32))) :: (b62, o_AL (.int (2 : Int32)) (.ref g74) (.int (2 : Int32))) :: (a53, o_Sync (.ref nP) (.ref nC) (.ref eL) (.int u2) (.int (0 : Int32)) (.ref a43) (.int (0 : Int32)) (.int (0 : Int32)) .null (.int (0 : Int32)) (.int (0 : Int32)) (.int (0 : Int32)) (.int (1 : Int32))) :: (a48, o_Sync (.ref nP) (.ref nC) (.ref eL) (.int u1) (.int (0 : Int32)) (.ref a43) (.int (0 : Int32)) (.int (0 : Int32)) .null (.int (0 : Int32)) (.int (0 : Int32)) (.int (0 : Int32)) (.int (1 : Int32))) :: (t78, o_Unit (.ref nS) (.ref nR) (.int (1 : Int32)) (.ref a43) (.int (0 : Int32)) (.int (0 : Int32))) :: (g74, .inr ((.object "java/lang/Object"), k75, [(.ref a48), (.ref a53)])) :: (d63, .inr ((.object "java/lang/Object"), k64, [(.ref a48)])) :: cs) := H93.pull 2 _ rfl rfl
      refine Own.W.callV ok tb (a := a43) (argsL := []) (rest := []) 207 208 210 209 211 2 rfl rfl rfl rfl rfl rfl (notFace_of_selects (args := #[]) (mvT ok.2.1 (tb _ (List.mem_of_getElem? (i := 210) rfl)))) (H94.exa (i := 0) rfl) at_263 pd_9 (c_wh1 l tb a43 b62 t78 g74 nP nC u0 u (2 : Int32) (2 : Int32) h91 ((a53, o_Sync (.ref nP) (.ref nC) (.ref eL) (.int u2) (.int (0 : Int32)) (.ref a43) (.int (0 : Int32)) (.int (0 : Int32)) .null (.int (0 : Int32)) (.int (0 : Int32)) (.int (0 : Int32)) (.int (1 : Int32))) :: (a48, o_Sync (.ref nP) (.ref nC) (.ref eL) (.int u1) (.int (0 : Int32)) (.ref a43) (.int (0 : Int32)) (.int (0 : Int32)) .null (.int (0 : Int32)) (.int (0 : Int32)) (.int (0 : Int32)) (.int (1 : Int32))) :: (t78, o_Unit (.ref nS) (.ref nR) (.int (1 : Int32)) (.ref a43) (.int (0 : Int32)) (.int (0 : Int32))) :: (g74, .inr ((.object "java/lang/Object"), k75, [(.ref a48), (.ref a53)])) :: (d63, .inr ((.object "java/lang/Object"), k64, [(.ref a48)])) :: cs) H94 rfl) 0 7 66 266 ?_
      rintro _ _ ⟨rfl, rfl⟩
      show Own.W l Z _ K _ h91 7 66 266 #[.val (.int u0), .val (.int u1), .val (.int u2), .val (.int u3), .val (.int (1 : Int32)), .val (.int u), .val (.ref a43), .val (.ref a48), .val (.ref a53), .val (.int (1 : Int32)), .val (.int (1 : Int32))] [(.int (1 : Int32))]
      refine Own.W.ifF ok at_266 269 (by decide : ¬ ((1 : Int32) = (0 : Int32))) ?_
      refine Own.W.iconst ok at_269 270 (1 : Int32) rfl ?_
      refine Own.W.goto ok at_270 274 ?_
      exact Own.W.iret ok at_274 rfl ⟨rfl, trivial⟩
    refine Own.W.iff ok at_16 23 19 (fun (hc95 : (u3 &&& (2 : Int32)) = (0 : Int32)) => ?_) (fun (hc95 : ¬ ((u3 &&& (2 : Int32)) = (0 : Int32))) => ?_)
    · refine Own.W.iconst ok at_23 24 (0 : Int32) rfl ?_
      exact J42 _ (Or.inl rfl)
    · refine Own.W.iconst ok at_19 20 (1 : Int32) rfl ?_
      refine Own.W.goto ok at_20 24 ?_
      exact J42 _ (Or.inr rfl)
set_option maxRecDepth 65536 in
set_option maxHeartbeats 4000000 in
theorem comes_1 {Post : Tables → Env → Array Value → State → Outcome → State → Prop} (hpost : ∀ tb e args s v u, (limb_1_1.after args s (.returned v) u = true ∧ limb_1_2.after args s (.returned v) u = true ∧ True) → FrameEnd s (.returned v) u (Jvm.fieldLocs frame_1_writes args s ++ Jvm.arrayLocs frame_1_arrays args s ++ Jvm.staticLocs frame_1_statics s) 24 256 → Post tb e args s (.returned v) u) :
    ArmFor flags0 classFile x code maxLocals ret World_1 tables_1 room_1 Calls_1 rest_1 Pre_1 Post := by
  intro l hfl _ _ p e ha hc hk s m args below hf hA hF happ hP
  obtain ⟨hcalls, hrest, hpre⟩ := hP
  obtain ⟨-, -, -, hnamed, -, -, -, hat⟩ := (Spec.applies_iff hf).mp happ
  obtain ⟨hg, hn⟩ := and_e (Cond.before_iff.mp (show (Jvm.Cond.and given_1 narrow_1).before args s = true from hpre))
  obtain ⟨hg0, hr0⟩ := and_e hg
  obtain ⟨hg1, hr1⟩ := and_e hr0
  obtain ⟨hg2, hr2⟩ := and_e hr1
  obtain ⟨hg3, hr3⟩ := and_e hr2
  obtain ⟨w0, w1, w2, w3, rfl⟩ : ∃ w0 w1 w2 w3 : Value, args = #[w0, w1, w2, w3] := by
    have hs : args.size = 4 := by simpa [Cond.value, given_1] using hg0
    obtain ⟨L⟩ := args
    match L, hs with
    | [w0, w1, w2, w3], _ => exact ⟨w0, w1, w2, w3, rfl⟩
  have hw := fun d (hd : d ∈ tables_1) => atoms_spec (ws := Jvm.Cond.code x code maxLocals ret :: tables_1) hat d (List.mem_cons_of_mem _ hd)
  have hfit : Fit s := fun {y c} hc i hi => by
    obtain ⟨ha, rfl⟩ := Array.getElem?_eq_some_iff.mp hc
    have q := List.all_eq_true.mp ((Array.all_eq_true_iff_forall_mem.mp hF) _ (Array.getElem_mem ha)) i (List.mem_range.mpr hi)
    simpa [Array.getElem?_eq_getElem hi] using q
  obtain ⟨hsets, hown0⟩ := atoms_of _ (rest_1_c_eq ▸ (show rest_1_c.before _ s = true from hrest))
  obtain ⟨i0, ei0⟩ := is_v hg1
  obtain rfl : w0 = (.int i0) := Option.some.inj ei0
  obtain ⟨i1, ei1⟩ := is_v hg2
  obtain rfl : w1 = (.int i1) := Option.some.inj ei1
  obtain ⟨i2, ei2⟩ := is_v hg3
  obtain rfl : w2 = (.int i2) := Option.some.inj ei2
  obtain ⟨i3, ei3⟩ := is_v hr3
  obtain rfl : w3 = (.int i3) := Option.some.inj ei3
  obtain ⟨c0, r0⟩ := and_e hn
  obtain ⟨c1, r1⟩ := and_e r0
  obtain ⟨c2, r2⟩ := and_e r1
  obtain ⟨c3, r3⟩ := and_e r2
  obtain ⟨c4, r4⟩ := and_e r3
  obtain ⟨c5, r5⟩ := and_e r4
  obtain ⟨nP, ev_nP⟩ := arr_v c0
  have st_nP := Sta.start ev_nP (Or.inr ⟨hw _ (List.mem_of_getElem? (i := 2) rfl), hw _ (List.mem_of_getElem? (i := 10) rfl)⟩)
  obtain ⟨nC, ev_nC, st_nC, -⟩ := Own.st_ref c2 (Or.inr ⟨hw _ (List.mem_of_getElem? (i := 14) rfl), hw _ (List.mem_of_getElem? (i := 15) rfl)⟩)
  obtain ⟨nS, ev_nS⟩ := arr_v c3
  have st_nS := Sta.start ev_nS (Or.inr ⟨hw _ (List.mem_of_getElem? (i := 151) rfl), hw _ (List.mem_of_getElem? (i := 155) rfl)⟩)
  obtain ⟨nR, ev_nR⟩ := arr_v c5
  have st_nR := Sta.start ev_nR (Or.inr ⟨hw _ (List.mem_of_getElem? (i := 141) rfl), hw _ (List.mem_of_getElem? (i := 159) rfl)⟩)
  obtain ⟨eL, ev_eL, st_eL, ex_eL⟩ := Own.st_ref (Cond.before_iff.mp (hsets _ (List.mem_of_getElem? (i := 2) rfl))) (Or.inl (hsets _ (List.mem_of_getElem? (i := 1) rfl)))
  obtain ⟨eA, ev_eA⟩ := arr_v (Cond.before_iff.mp (hsets _ (List.mem_of_getElem? (i := 3) rfl)))
  have FE : Fld s s.heap eL "java/util/ImmutableCollections$ListN" "elements" "[Ljava/lang/Object;" (.ref eA) := Fld.start ((fld_at ev_eL).symm.trans ev_eA)
  obtain ⟨ce, AE⟩ := Arr.start ev_eA (Cond.before_iff.mp (hsets _ (List.mem_of_getElem? (i := 3) rfl)))
  have he : ce.slots.size.toInt32 = (0 : Int32) := Own.len_of_eq ev_eA AE (Cond.before_iff.mp (hsets _ (List.mem_of_getElem? (i := 5) rfl)))
  obtain ⟨⟨mc, mk, mr, mm1, mm2, mm3⟩, -⟩ := hcalls
  have M : Own.Mr s "[Ljava/lang/Object;" mr := ⟨mc, mk, mm1, mm2, mm3.1⟩
  obtain ⟨n, o, h1, h2, h3, _, L, rfl, ⟨⟨rfl, -⟩, N⟩, hq⟩ := c_law l hw i0 i1 i2 i3 nP nC eL eA nS nR mr ce s.heap [] (Own.HS.nil s) st_nP st_nC st_eL st_nS st_nR M FE ex_eL AE he tables_1 p e ha hc hk s m _ below hf ((Spec.applies_iff_loose hf).mp happ).1 ⟨rfl, State.Warmed39.refl s, rfl⟩ trivial
  refine ⟨n, _, h1, h2, h3, hpost _ _ _ _ _ _ ⟨Cond.after_iff.mpr rfl, Cond.after_iff.mpr (eq_i res_at (Term.int_eval (1)) rfl), trivial⟩ ⟨hq.1, hq.2.1, (hq.2.2.sift fun y hy => Or.inr (N y hy)).mono (by decide) (by decide)⟩⟩
theorem main_1_1 : Claimed_1_1 := comes_1 fun _ _ _ _ _ _ h hF => ⟨h.1, hF⟩
theorem main_1_2 : Claimed_1_2 := comes_1 fun _ _ _ _ _ _ h hF => ⟨h.2.1, hF⟩
end Jvm.Pilot.@@N@@
namespace Jvm.Pilot.@@N@@
open Jvm Jvm.ClassFile Sem Op Lib Jvm.Free Jvm.Stand Jvm.Pilot.@@N@@.Jvm.D
/-! MADE BY PROGRAM (witnessworld.py) out of the Statement's table words and the real class files: 33 classes; the members and pool entries that the words name. The judged class is class 1, her method 1. -/
namespace start1
open Jvm.ClassFile
def u (s : String) : CpInfo := .utf8 (stringToUtf16 s)
/-- a pool by its gaps: so many unusable entries, then the entry; so many at the end -/
def gap : Nat → List CpInfo → List CpInfo
  | 0, r => r
  | n + 1, r => .unusable :: gap n r
def poolList (es : List (Nat × CpInfo)) (last : Nat) : List CpInfo := es.foldr (fun e r => gap e.1 (e.2 :: r)) (gap last [])
def pool (es : List (Nat × CpInfo)) (last : Nat) : Array CpInfo := ⟨poolList es last⟩
def fileOf (pool : Array CpInfo) (this : Nat) (attrs : Array Attribute := #[]) (ms : Array MethodInfo := #[]) (fl : Nat := 33) (sup : Nat := 0) (ifs : Array Nat := #[]) (fds : Array FieldInfo := #[]) : ClassFile where
  minorVersion := 0
  majorVersion := 65
  constantPool := pool
  accessFlags := fl
  thisClass := this
  superClass := sup
  interfaces := ifs
  fields := fds
  methods := ms
  attributes := attrs
def plain (name : String) (sup : Option ClassId) : Class where
  name := name
  kind := .ordinary
  loader := none
  accessFlags := 33
  super := sup
  interfaces := #[]
  cf := none
  fields := #[]
  methods := #[]
  instanceTypes := #[]
  staticTypes := #[]
  resolved := #[]
  callSites := []
  init := .initialized
  statics := none
  mirror := none

def pool0 : Array CpInfo := pool [(5, u "<init>"), (0, u "()V"), (1, .class_ 10), (1, u "java/lang/Object"), (0, u "getClass"), (0, u "()Ljava/lang/Class;")] 111

def k0c0 : Code := { maxStack := 0, maxLocals := 1, code := object_method_1_code, exceptionTable := #[], attributes := #[] }
def k0m0 : Method := { name := "<init>", desc := "()V", sig := { parameters := [], returnType := none }, accessFlags := 1, code := some k0c0 }
def k0m1 : Method := { name := "getClass", desc := "()Ljava/lang/Class;", sig := { parameters := [], returnType := some (.object "java/lang/Class") }, accessFlags := 273, code := none }
/-- java/lang/Object -/
def k0 : Class := { plain "java/lang/Object" none with
  accessFlags := 33
  interfaces := #[]
  cf := some (fileOf pool0 8 #[] #[{ accessFlags := 1, nameIndex := 5, descriptorIndex := 6, attributes := #[] }, { accessFlags := 273, nameIndex := 11, descriptorIndex := 12, attributes := #[] }] 33 0 #[] #[])
  fields := #[]
  methods := #[k0m0, k0m1]
  instanceTypes := #[]
  staticTypes := #[]
  resolved := Array.replicate 124 none
  statics := none }

def pool1 : Array CpInfo := pool [(2, .class_ 4), (1, u "java/lang/Object"), (0, u "<init>"), (0, u "()V"), (0, .class_ 8), (0, u "com/example/latchwork/latchwork/engine/SyncState"), (0, .methodref 7 10), (0, .nameAndType 5 11), (0, u "(IZ)V"), (0, .methodref 7 13), (0, .nameAndType 14 15), (0, u "adopt"), (0, u "(Lcom/example/latchwork/latchwork/engine/SyncState;)V"), (0, .methodref 17 18), (0, .class_ 19), (0, .nameAndType 20 21), (0, u "com/example/latchwork/latchwork/engine/Unit"), (0, u "forSync"), (0, u "(Lcom/example/latchwork/latchwork/engine/SyncState;)Lcom/example/latchwork/latchwork/engine/Unit;"), (0, .methodref 7 23), (0, .nameAndType 24 6), (0, u "setReady"), (0, .methodref 7 26), (0, .nameAndType 27 28), (0, u "isWhole"), (0, u "()Z"), (0, .methodref 7 30), (0, .nameAndType 31 28), (0, u "isEnded"), (0, .methodref 7 33), (0, .nameAndType 34 6), (0, u "endAsChild"), (0, .methodref 7 36), (0, .nameAndType 37 28), (0, u "isReady"), (0, .methodref 7 39), (0, .nameAndType 40 41), (0, u "parent"), (0, u "()Lcom/example/latchwork/latchwork/engine/SyncState;"), (0, .class_ 43), (0, u "com/example/latchwork/latchwork/engine/SyncStateEndAsChildPinLaw"), (2, u "law"), (0, u "(IIII)Z")] 3

def k1m0 : Method := { name := "<init>", desc := "()V", sig := { parameters := [], returnType := none }, accessFlags := 1, code := none }
def k1c1 : Code := { maxStack := 4, maxLocals := 11, code := code, exceptionTable := #[], attributes := #[] }
def k1m1 : Method := { name := "law", desc := "(IIII)Z", sig := { parameters := [.int, .int, .int, .int], returnType := some .boolean }, accessFlags := 9, code := some k1c1 }
/-- com/example/latchwork/latchwork/engine/SyncStateEndAsChildPinLaw -/
def k1 : Class := { plain "com/example/latchwork/latchwork/engine/SyncStateEndAsChildPinLaw" (some 0) with
  accessFlags := 49
  interfaces := #[]
  cf := some (fileOf pool1 42 #[] #[{ accessFlags := 1, nameIndex := 5, descriptorIndex := 6, attributes := #[] }, { accessFlags := 9, nameIndex := 46, descriptorIndex := 47, attributes := #[] }] 49 2 #[] #[])
  fields := #[]
  methods := #[k1m0, k1m1]
  instanceTypes := #[]
  staticTypes := #[]
  resolved := Array.replicate 51 none
  statics := none }

def pool2 : Array CpInfo := pool [(1, .methodref 2 3), (0, .class_ 4), (0, .nameAndType 5 6), (0, u "java/lang/Object"), (0, u "<init>"), (0, u "()V"), (0, .fieldref 8 9), (0, .class_ 10), (0, .nameAndType 11 12), (0, u "com/example/latchwork/latchwork/engine/SyncState"), (0, u "NO_PARTS"), (0, u "[Lcom/example/latchwork/latchwork/engine/SyncState$Part;"), (0, .fieldref 8 14), (0, .nameAndType 15 12), (0, u "parts"), (0, .fieldref 17 18), (0, .class_ 19), (0, .nameAndType 20 21), (0, u "com/example/latchwork/latchwork/model/Changes"), (0, u "NONE"), (0, u "Lcom/example/latchwork/latchwork/model/Changes;"), (0, .fieldref 8 23), (0, .nameAndType 24 21), (0, u "changes"), (0, .interfaceMethodref 26 27), (0, .class_ 28), (0, .nameAndType 29 30), (0, u "java/util/List"), (0, u "of"), (0, u "()Ljava/util/List;"), (0, .fieldref 8 32), (0, .nameAndType 33 34), (0, u "children"), (0, u "Ljava/util/List;"), (0, .fieldref 8 36), (0, .nameAndType 37 38), (0, u "number"), (0, u "I"), (0, .fieldref 8 40), (0, .nameAndType 41 42), (0, u "handsOver"), (0, u "Z"), (0, .fieldref 8 44), (0, .nameAndType 45 42), (0, u "ready"), (0, .fieldref 8 47), (0, .nameAndType 48 42), (0, u "ended"), (2, u "deadline"), (0, u "J"), (2, u "partCount"), (0, .fieldref 8 57), (0, .nameAndType 58 38), (0, u "pending"), (0, .fieldref 8 60), (0, .nameAndType 61 62), (0, u "unit"), (0, u "Lcom/example/latchwork/latchwork/engine/Unit;"), (0, .fieldref 8 64), (0, .nameAndType 65 66), (0, u "parent"), (0, u "Lcom/example/latchwork/latchwork/engine/SyncState;"), (24, u "participants"), (0, u "Ljava/util/BitSet;"), (5, u "()I"), (7, .class_ 108), (1, u "com/example/latchwork/latchwork/engine/SyncState$Part"), (11, u "(I)V"), (25, .interfaceMethodref 26 147), (0, .nameAndType 148 149), (0, u "isEmpty"), (0, u "()Z"), (0, .class_ 151), (0, u "java/util/ArrayList"), (0, .methodref 150 153), (0, .nameAndType 5 120), (0, .interfaceMethodref 26 155), (0, .nameAndType 156 157), (0, u "add"), (0, u "(Ljava/lang/Object;)Z"), (0, .methodref 159 160), (0, .class_ 161), (0, .nameAndType 162 6), (0, u "com/example/latchwork/latchwork/engine/Unit"), (0, u "countReady"), (0, .fieldref 8 164), (0, .nameAndType 165 38), (0, u "arrivedFrames"), (0, .fieldref 8 167), (0, .nameAndType 168 38), (0, u "begunFrames"), (0, .fieldref 8 170), (0, .nameAndType 171 38), (0, u "endedChildren"), (0, .interfaceMethodref 26 173), (0, .nameAndType 174 98), (0, u "size"), (26, u "Ljava/util/Comparator;"), (17, u "BY_NUMBER"), (2, u "FEW_PARTS"), (3, u "(IZ)V"), (2, u "isReady"), (0, u "isEnded"), (3, u "setUnit"), (0, u "(Lcom/example/latchwork/latchwork/engine/Unit;)V"), (1, u "()Lcom/example/latchwork/latchwork/engine/SyncState;"), (9, u "(Lcom/example/latchwork/latchwork/engine/SyncState;)V"), (0, u "adopt"), (0, u "setReady"), (3, u "isWhole"), (0, u "endAsChild")] 45

def k2c0 : Code := { maxStack := 2, maxLocals := 3, code := prog_38_method_1_code, exceptionTable := #[], attributes := #[] }
def k2m0 : Method := { name := "<init>", desc := "(IZ)V", sig := { parameters := [.int, .boolean], returnType := none }, accessFlags := 0, code := some k2c0 }
def k2c1 : Code := { maxStack := 1, maxLocals := 1, code := prog_38_method_4_code, exceptionTable := #[], attributes := #[] }
def k2m1 : Method := { name := "isReady", desc := "()Z", sig := { parameters := [], returnType := some .boolean }, accessFlags := 0, code := some k2c1 }
def k2c2 : Code := { maxStack := 1, maxLocals := 1, code := prog_38_method_5_code, exceptionTable := #[], attributes := #[] }
def k2m2 : Method := { name := "isEnded", desc := "()Z", sig := { parameters := [], returnType := some .boolean }, accessFlags := 0, code := some k2c2 }
def k2c3 : Code := { maxStack := 1, maxLocals := 1, code := prog_38_method_9_code, exceptionTable := #[], attributes := #[] }
def k2m3 : Method := { name := "pending", desc := "()I", sig := { parameters := [], returnType := some .int }, accessFlags := 0, code := some k2c3 }
def k2c4 : Code := { maxStack := 2, maxLocals := 2, code := prog_38_method_11_code, exceptionTable := #[], attributes := #[] }
def k2m4 : Method := { name := "setUnit", desc := "(Lcom/example/latchwork/latchwork/engine/Unit;)V", sig := { parameters := [(.object "com/example/latchwork/latchwork/engine/Unit")], returnType := none }, accessFlags := 0, code := some k2c4 }
def k2c5 : Code := { maxStack := 1, maxLocals := 1, code := prog_38_method_13_code, exceptionTable := #[], attributes := #[] }
def k2m5 : Method := { name := "parent", desc := "()Lcom/example/latchwork/latchwork/engine/SyncState;", sig := { parameters := [], returnType := some (.object "com/example/latchwork/latchwork/engine/SyncState") }, accessFlags := 0, code := some k2c5 }
def k2c6 : Code := { maxStack := 4, maxLocals := 2, code := prog_38_method_21_code, exceptionTable := #[], attributes := #[] }
def k2m6 : Method := { name := "adopt", desc := "(Lcom/example/latchwork/latchwork/engine/SyncState;)V", sig := { parameters := [(.object "com/example/latchwork/latchwork/engine/SyncState")], returnType := none }, accessFlags := 0, code := some k2c6 }
def k2c7 : Code := { maxStack := 2, maxLocals := 1, code := prog_38_method_22_code, exceptionTable := #[], attributes := #[] }
def k2m7 : Method := { name := "setReady", desc := "()V", sig := { parameters := [], returnType := none }, accessFlags := 0, code := some k2c7 }
def k2c8 : Code := { maxStack := 2, maxLocals := 1, code := prog_38_method_25_code, exceptionTable := #[], attributes := #[] }
def k2m8 : Method := { name := "isWhole", desc := "()Z", sig := { parameters := [], returnType := some .boolean }, accessFlags := 0, code := some k2c8 }
def k2c9 : Code := { maxStack := 3, maxLocals := 1, code := prog_38_method_26_code, exceptionTable := #[], attributes := #[] }
def k2m9 : Method := { name := "endAsChild", desc := "()V", sig := { parameters := [], returnType := none }, accessFlags := 0, code := some k2c9 }
/-- com/example/latchwork/latchwork/engine/SyncState -/
def k2 : Class := { plain "com/example/latchwork/latchwork/engine/SyncState" (some 0) with
  accessFlags := 32
  interfaces := #[]
  cf := some (fileOf pool2 8 #[.nestMembers #[106]] #[{ accessFlags := 0, nameIndex := 5, descriptorIndex := 226, attributes := #[] }, { accessFlags := 0, nameIndex := 229, descriptorIndex := 149, attributes := #[] }, { accessFlags := 0, nameIndex := 230, descriptorIndex := 149, attributes := #[] }, { accessFlags := 0, nameIndex := 58, descriptorIndex := 98, attributes := #[] }, { accessFlags := 0, nameIndex := 234, descriptorIndex := 235, attributes := #[] }, { accessFlags := 0, nameIndex := 65, descriptorIndex := 237, attributes := #[] }, { accessFlags := 0, nameIndex := 248, descriptorIndex := 247, attributes := #[] }, { accessFlags := 0, nameIndex := 249, descriptorIndex := 6, attributes := #[] }, { accessFlags := 0, nameIndex := 253, descriptorIndex := 149, attributes := #[] }, { accessFlags := 0, nameIndex := 254, descriptorIndex := 6, attributes := #[] }] 32 2 #[] #[{ accessFlags := 24, nameIndex := 219, descriptorIndex := 201, attributes := #[] }, { accessFlags := 18, nameIndex := 37, descriptorIndex := 38, attributes := #[] }, { accessFlags := 18, nameIndex := 41, descriptorIndex := 42, attributes := #[] }, { accessFlags := 26, nameIndex := 11, descriptorIndex := 12, attributes := #[] }, { accessFlags := 2, nameIndex := 15, descriptorIndex := 12, attributes := #[] }, { accessFlags := 2, nameIndex := 55, descriptorIndex := 38, attributes := #[] }, { accessFlags := 26, nameIndex := 222, descriptorIndex := 38, attributes := #[] }, { accessFlags := 2, nameIndex := 91, descriptorIndex := 92, attributes := #[] }, { accessFlags := 2, nameIndex := 58, descriptorIndex := 38, attributes := #[] }, { accessFlags := 2, nameIndex := 168, descriptorIndex := 38, attributes := #[] }, { accessFlags := 2, nameIndex := 165, descriptorIndex := 38, attributes := #[] }, { accessFlags := 2, nameIndex := 171, descriptorIndex := 38, attributes := #[] }, { accessFlags := 2, nameIndex := 45, descriptorIndex := 42, attributes := #[] }, { accessFlags := 2, nameIndex := 51, descriptorIndex := 52, attributes := #[] }, { accessFlags := 2, nameIndex := 48, descriptorIndex := 42, attributes := #[] }, { accessFlags := 2, nameIndex := 61, descriptorIndex := 62, attributes := #[] }, { accessFlags := 2, nameIndex := 24, descriptorIndex := 21, attributes := #[] }, { accessFlags := 2, nameIndex := 65, descriptorIndex := 66, attributes := #[] }, { accessFlags := 2, nameIndex := 33, descriptorIndex := 34, attributes := #[] }])
  fields := #[{ name := "BY_NUMBER", type := (.object "java/util/Comparator"), accessFlags := 24, slot := 0, constantValue := 0 }, { name := "number", type := .int, accessFlags := 18, slot := 0, constantValue := 0 }, { name := "handsOver", type := .boolean, accessFlags := 18, slot := 1, constantValue := 0 }, { name := "NO_PARTS", type := (.array (.object "com/example/latchwork/latchwork/engine/SyncState$Part")), accessFlags := 26, slot := 1, constantValue := 0 }, { name := "parts", type := (.array (.object "com/example/latchwork/latchwork/engine/SyncState$Part")), accessFlags := 2, slot := 2, constantValue := 0 }, { name := "partCount", type := .int, accessFlags := 2, slot := 3, constantValue := 0 }, { name := "FEW_PARTS", type := .int, accessFlags := 26, slot := 2, constantValue := 0 }, { name := "participants", type := (.object "java/util/BitSet"), accessFlags := 2, slot := 4, constantValue := 0 }, { name := "pending", type := .int, accessFlags := 2, slot := 5, constantValue := 0 }, { name := "begunFrames", type := .int, accessFlags := 2, slot := 6, constantValue := 0 }, { name := "arrivedFrames", type := .int, accessFlags := 2, slot := 7, constantValue := 0 }, { name := "endedChildren", type := .int, accessFlags := 2, slot := 8, constantValue := 0 }, { name := "ready", type := .boolean, accessFlags := 2, slot := 9, constantValue := 0 }, { name := "deadline", type := .long, accessFlags := 2, slot := 10, constantValue := 0 }, { name := "ended", type := .boolean, accessFlags := 2, slot := 11, constantValue := 0 }, { name := "unit", type := (.object "com/example/latchwork/latchwork/engine/Unit"), accessFlags := 2, slot := 12, constantValue := 0 }, { name := "changes", type := (.object "com/example/latchwork/latchwork/model/Changes"), accessFlags := 2, slot := 13, constantValue := 0 }, { name := "parent", type := (.object "com/example/latchwork/latchwork/engine/SyncState"), accessFlags := 2, slot := 14, constantValue := 0 }, { name := "children", type := (.object "java/util/List"), accessFlags := 2, slot := 15, constantValue := 0 }]
  methods := #[k2m0, k2m1, k2m2, k2m3, k2m4, k2m5, k2m6, k2m7, k2m8, k2m9]
  instanceTypes := #[.int, .boolean, (.array (.object "com/example/latchwork/latchwork/engine/SyncState$Part")), .int, (.object "java/util/BitSet"), .int, .int, .int, .int, .boolean, .long, .boolean, (.object "com/example/latchwork/latchwork/engine/Unit"), (.object "com/example/latchwork/latchwork/model/Changes"), (.object "com/example/latchwork/latchwork/engine/SyncState"), (.object "java/util/List")]
  staticTypes := #[(.object "java/util/Comparator"), (.array (.object "com/example/latchwork/latchwork/engine/SyncState$Part")), .int]
  resolved := Array.replicate 300 none
  statics := some 0 }

def pool3 : Array CpInfo := pool [(2, .class_ 4), (1, u "java/lang/Object"), (3, .class_ 10), (1, u "com/example/latchwork/latchwork/model/Changes"), (0, u "bySurface"), (0, u "Ljava/util/TreeMap;"), (58, u "NONE"), (0, u "Lcom/example/latchwork/latchwork/model/Changes;")] 143

/-- com/example/latchwork/latchwork/model/Changes -/
def k3 : Class := { plain "com/example/latchwork/latchwork/model/Changes" (some 0) with
  accessFlags := 49
  interfaces := #[]
  cf := some (fileOf pool3 8 #[] #[] 49 2 #[] #[{ accessFlags := 25, nameIndex := 71, descriptorIndex := 72, attributes := #[] }, { accessFlags := 18, nameIndex := 11, descriptorIndex := 12, attributes := #[] }])
  fields := #[{ name := "NONE", type := (.object "com/example/latchwork/latchwork/model/Changes"), accessFlags := 25, slot := 0, constantValue := 0 }, { name := "bySurface", type := (.object "java/util/TreeMap"), accessFlags := 18, slot := 0, constantValue := 0 }]
  methods := #[]
  instanceTypes := #[(.object "java/util/TreeMap")]
  staticTypes := #[(.object "com/example/latchwork/latchwork/model/Changes")]
  resolved := Array.replicate 216 none
  statics := some 1 }

def pool4 : Array CpInfo := pool [(8, .class_ 10), (1, u "java/lang/Iterable"), (24, .class_ 36), (0, u "java/lang/Object")] 25

/-- java/lang/Iterable -/
def k4 : Class := { plain "java/lang/Iterable" (some 0) with
  accessFlags := 1537
  interfaces := #[]
  cf := some (fileOf pool4 8 #[] #[] 1537 35 #[] #[])
  fields := #[]
  methods := #[]
  instanceTypes := #[]
  staticTypes := #[]
  resolved := Array.replicate 62 none
  statics := none }

def pool5 : Array CpInfo := pool [(10, .class_ 12), (1, u "java/util/Collection"), (47, .class_ 61), (0, u "java/lang/Object"), (0, .class_ 63), (0, u "java/lang/Iterable")] 51

/-- java/util/Collection -/
def k5 : Class := { plain "java/util/Collection" (some 0) with
  accessFlags := 1537
  interfaces := #[4]
  cf := some (fileOf pool5 10 #[] #[] 1537 60 #[62] #[])
  fields := #[]
  methods := #[]
  instanceTypes := #[]
  staticTypes := #[]
  resolved := Array.replicate 115 none
  statics := none }

def pool6 : Array CpInfo := pool [(8, .class_ 10), (1, u "java/util/SequencedCollection"), (15, .class_ 27), (0, u "java/lang/Object"), (0, .class_ 29), (0, u "java/util/Collection")] 27

/-- java/util/SequencedCollection -/
def k6 : Class := { plain "java/util/SequencedCollection" (some 0) with
  accessFlags := 1537
  interfaces := #[5]
  cf := some (fileOf pool6 8 #[] #[] 1537 26 #[28] #[])
  fields := #[]
  methods := #[]
  instanceTypes := #[]
  staticTypes := #[]
  resolved := Array.replicate 57 none
  statics := none }

def pool7 : Array CpInfo := pool [(8, .class_ 10), (1, u "java/util/List"), (7, u "()Z"), (41, u "add"), (3, u "(Ljava/lang/Object;)Z"), (2, u "isEmpty"), (11, u "size"), (0, u "()I"), (7, u "of"), (1, .fieldref 91 92), (0, .class_ 93), (0, .nameAndType 94 95), (0, u "java/util/ImmutableCollections"), (0, u "EMPTY_LIST"), (0, u "Ljava/util/ImmutableCollections$ListN;"), (7, .class_ 104), (0, u "java/lang/Object"), (14, u "()Ljava/util/List;"), (0, .class_ 121), (0, u "java/util/SequencedCollection")] 129

def k7m0 : Method := { name := "size", desc := "()I", sig := { parameters := [], returnType := some .int }, accessFlags := 1025, code := none }
def k7m1 : Method := { name := "isEmpty", desc := "()Z", sig := { parameters := [], returnType := some .boolean }, accessFlags := 1025, code := none }
def k7m2 : Method := { name := "add", desc := "(Ljava/lang/Object;)Z", sig := { parameters := [(.object "java/lang/Object")], returnType := some .boolean }, accessFlags := 1025, code := none }
def k7c3 : Code := { maxStack := 1, maxLocals := 0, code := jdk_40_method_36_code, exceptionTable := #[], attributes := #[] }
def k7m3 : Method := { name := "of", desc := "()Ljava/util/List;", sig := { parameters := [], returnType := some (.object "java/util/List") }, accessFlags := 9, code := some k7c3 }
/-- java/util/List -/
def k7 : Class := { plain "java/util/List" (some 0) with
  accessFlags := 1537
  interfaces := #[6]
  cf := some (fileOf pool7 8 #[] #[{ accessFlags := 1025, nameIndex := 79, descriptorIndex := 80, attributes := #[] }, { accessFlags := 1025, nameIndex := 67, descriptorIndex := 18, attributes := #[] }, { accessFlags := 1025, nameIndex := 60, descriptorIndex := 64, attributes := #[] }, { accessFlags := 9, nameIndex := 88, descriptorIndex := 119, attributes := #[] }] 1537 103 #[120] #[])
  fields := #[]
  methods := #[k7m0, k7m1, k7m2, k7m3]
  instanceTypes := #[]
  staticTypes := #[]
  resolved := Array.replicate 251 none
  statics := none }

def pool8 : Array CpInfo := pool [(2, .class_ 4), (1, u "java/lang/Object"), (0, u "<init>"), (0, u "()V"), (3, .class_ 11), (0, u "java/util/ImmutableCollections$List12"), (0, .class_ 13), (0, u "java/util/ImmutableCollections$ListN"), (3, u "Z"), (29, .class_ 49), (1, u "java/util/ImmutableCollections"), (0, u "$assertionsDisabled"), (5, u "[Ljava/lang/Object;"), (5, u "EMPTY_LIST"), (0, u "Ljava/util/ImmutableCollections$ListN;"), (8, u "EMPTY_LIST_NULLS"), (22, u "SALT32L"), (0, u "J"), (2, u "REVERSE"), (6, u "archivedObjects"), (2, u "EMPTY"), (0, u "Ljava/lang/Object;"), (0, .class_ 112), (0, u "java/util/ImmutableCollections$SetN"), (5, u "EMPTY_SET"), (0, u "Ljava/util/ImmutableCollections$SetN;"), (0, .class_ 121), (0, u "java/util/ImmutableCollections$MapN"), (3, u "EMPTY_MAP"), (0, u "Ljava/util/ImmutableCollections$MapN;"), (4, u "EXPAND_FACTOR"), (0, u "I"), (36, .class_ 170), (0, u "java/util/ImmutableCollections$MapN$MapNIterator"), (0, .class_ 172), (0, u "java/util/ImmutableCollections$MapN$1"), (0, .class_ 174), (0, u "java/util/ImmutableCollections$Map1"), (0, .class_ 176), (0, u "java/util/ImmutableCollections$AbstractImmutableMap"), (0, .class_ 178), (0, u "java/util/ImmutableCollections$SetN$SetNIterator"), (0, .class_ 180), (0, u "java/util/ImmutableCollections$Set12"), (0, .class_ 182), (0, u "java/util/ImmutableCollections$Set12$1"), (0, .class_ 184), (0, u "java/util/ImmutableCollections$AbstractImmutableSet"), (0, .class_ 186), (0, u "java/util/ImmutableCollections$SubList"), (0, .class_ 188), (0, u "java/util/ImmutableCollections$ListItr"), (0, .class_ 190), (0, u "java/util/ImmutableCollections$AbstractImmutableList"), (0, .class_ 192), (0, u "java/util/ImmutableCollections$AbstractImmutableCollection"), (0, .class_ 194), (0, u "java/util/ImmutableCollections$Access"), (0, .class_ 196), (0, u "java/util/ImmutableCollections$Access$1")] 16

def k8m0 : Method := { name := "<init>", desc := "()V", sig := { parameters := [], returnType := none }, accessFlags := 2, code := none }
/-- java/util/ImmutableCollections -/
def k8 : Class := { plain "java/util/ImmutableCollections" (some 0) with
  accessFlags := 32
  interfaces := #[]
  cf := some (fileOf pool8 47 #[.nestMembers #[120, 169, 171, 173, 175, 111, 177, 179, 181, 183, 12, 10, 185, 187, 189, 191, 193, 195]] #[{ accessFlags := 2, nameIndex := 5, descriptorIndex := 6, attributes := #[] }] 32 2 #[] #[{ accessFlags := 26, nameIndex := 95, descriptorIndex := 96, attributes := #[] }, { accessFlags := 26, nameIndex := 99, descriptorIndex := 17, attributes := #[] }, { accessFlags := 10, nameIndex := 106, descriptorIndex := 56, attributes := #[] }, { accessFlags := 26, nameIndex := 109, descriptorIndex := 110, attributes := #[] }, { accessFlags := 24, nameIndex := 62, descriptorIndex := 63, attributes := #[] }, { accessFlags := 24, nameIndex := 72, descriptorIndex := 63, attributes := #[] }, { accessFlags := 24, nameIndex := 118, descriptorIndex := 119, attributes := #[] }, { accessFlags := 24, nameIndex := 125, descriptorIndex := 126, attributes := #[] }, { accessFlags := 24, nameIndex := 131, descriptorIndex := 132, attributes := #[] }, { accessFlags := 4120, nameIndex := 50, descriptorIndex := 17, attributes := #[] }])
  fields := #[{ name := "SALT32L", type := .long, accessFlags := 26, slot := 0, constantValue := 0 }, { name := "REVERSE", type := .boolean, accessFlags := 26, slot := 1, constantValue := 0 }, { name := "archivedObjects", type := (.array (.object "java/lang/Object")), accessFlags := 10, slot := 2, constantValue := 0 }, { name := "EMPTY", type := (.object "java/lang/Object"), accessFlags := 26, slot := 3, constantValue := 0 }, { name := "EMPTY_LIST", type := (.object "java/util/ImmutableCollections$ListN"), accessFlags := 24, slot := 4, constantValue := 0 }, { name := "EMPTY_LIST_NULLS", type := (.object "java/util/ImmutableCollections$ListN"), accessFlags := 24, slot := 5, constantValue := 0 }, { name := "EMPTY_SET", type := (.object "java/util/ImmutableCollections$SetN"), accessFlags := 24, slot := 6, constantValue := 0 }, { name := "EMPTY_MAP", type := (.object "java/util/ImmutableCollections$MapN"), accessFlags := 24, slot := 7, constantValue := 0 }, { name := "EXPAND_FACTOR", type := .int, accessFlags := 24, slot := 8, constantValue := 0 }, { name := "$assertionsDisabled", type := .boolean, accessFlags := 4120, slot := 9, constantValue := 0 }]
  methods := #[k8m0]
  instanceTypes := #[]
  staticTypes := #[.long, .boolean, (.array (.object "java/lang/Object")), (.object "java/lang/Object"), (.object "java/util/ImmutableCollections$ListN"), (.object "java/util/ImmutableCollections$ListN"), (.object "java/util/ImmutableCollections$SetN"), (.object "java/util/ImmutableCollections$MapN"), .int, .boolean]
  resolved := Array.replicate 213 none
  statics := some 2 }

def pool9 : Array CpInfo := pool [(1, .methodref 2 3), (0, .class_ 4), (0, .nameAndType 5 6), (0, u "java/lang/Object"), (0, u "<init>"), (0, u "()V"), (1, .class_ 10), (1, u "java/util/AbstractCollection"), (66, .class_ 78), (0, u "java/util/Collection")] 81

def k9c0 : Code := { maxStack := 1, maxLocals := 1, code := jdk_22_method_1_code, exceptionTable := #[], attributes := #[] }
def k9m0 : Method := { name := "<init>", desc := "()V", sig := { parameters := [], returnType := none }, accessFlags := 4, code := some k9c0 }
/-- java/util/AbstractCollection -/
def k9 : Class := { plain "java/util/AbstractCollection" (some 0) with
  accessFlags := 1057
  interfaces := #[5]
  cf := some (fileOf pool9 8 #[] #[{ accessFlags := 4, nameIndex := 5, descriptorIndex := 6, attributes := #[] }] 1057 2 #[77] #[])
  fields := #[]
  methods := #[k9m0]
  instanceTypes := #[]
  staticTypes := #[]
  resolved := Array.replicate 160 none
  statics := none }

def pool10 : Array CpInfo := pool [(2, .class_ 4), (1, u "java/util/AbstractCollection"), (0, u "<init>"), (0, u "()V"), (1, .class_ 10), (1, u "java/util/ImmutableCollections"), (2, .class_ 14), (0, u "java/util/ImmutableCollections$AbstractImmutableCollection")] 41

def k10m0 : Method := { name := "<init>", desc := "()V", sig := { parameters := [], returnType := none }, accessFlags := 0, code := none }
/-- java/util/ImmutableCollections$AbstractImmutableCollection -/
def k10 : Class := { plain "java/util/ImmutableCollections$AbstractImmutableCollection" (some 9) with
  accessFlags := 1056
  interfaces := #[]
  cf := some (fileOf pool10 13 #[.nestHost 8] #[{ accessFlags := 0, nameIndex := 5, descriptorIndex := 6, attributes := #[] }] 1056 2 #[] #[])
  fields := #[]
  methods := #[k10m0]
  instanceTypes := #[]
  staticTypes := #[]
  resolved := Array.replicate 56 none
  statics := none }

def pool11 : Array CpInfo := pool [(1, .class_ 2), (0, u "java/util/RandomAccess"), (0, .class_ 4), (0, u "java/lang/Object")] 2

/-- java/util/RandomAccess -/
def k11 : Class := { plain "java/util/RandomAccess" (some 0) with
  accessFlags := 1537
  interfaces := #[]
  cf := some (fileOf pool11 1 #[] #[] 1537 3 #[] #[])
  fields := #[]
  methods := #[]
  instanceTypes := #[]
  staticTypes := #[]
  resolved := Array.replicate 7 none
  statics := none }

def pool12 : Array CpInfo := pool [(2, .class_ 4), (1, u "java/util/ImmutableCollections$AbstractImmutableCollection"), (0, u "<init>"), (0, u "()V"), (1, .class_ 10), (1, u "java/util/ImmutableCollections"), (3, .class_ 16), (1, u "java/util/ImmutableCollections$AbstractImmutableList"), (60, .class_ 78), (0, u "java/util/List"), (45, .class_ 125), (0, u "java/util/RandomAccess")] 70

def k12m0 : Method := { name := "<init>", desc := "()V", sig := { parameters := [], returnType := none }, accessFlags := 0, code := none }
/-- java/util/ImmutableCollections$AbstractImmutableList -/
def k12 : Class := { plain "java/util/ImmutableCollections$AbstractImmutableList" (some 10) with
  accessFlags := 1056
  interfaces := #[7, 11]
  cf := some (fileOf pool12 14 #[.nestHost 8] #[{ accessFlags := 0, nameIndex := 5, descriptorIndex := 6, attributes := #[] }] 1056 2 #[77, 124] #[])
  fields := #[]
  methods := #[k12m0]
  instanceTypes := #[]
  staticTypes := #[]
  resolved := Array.replicate 196 none
  statics := none }

def pool13 : Array CpInfo := pool [(1, .class_ 2), (0, u "java/io/Serializable"), (0, .class_ 4), (0, u "java/lang/Object")] 2

/-- java/io/Serializable -/
def k13 : Class := { plain "java/io/Serializable" (some 0) with
  accessFlags := 1537
  interfaces := #[]
  cf := some (fileOf pool13 1 #[] #[] 1537 3 #[] #[])
  fields := #[]
  methods := #[]
  instanceTypes := #[]
  staticTypes := #[]
  resolved := Array.replicate 7 none
  statics := none }

def pool14 : Array CpInfo := pool [(2, .class_ 4), (1, u "java/util/ImmutableCollections$AbstractImmutableList"), (2, .fieldref 8 9), (0, .class_ 10), (0, .nameAndType 11 12), (0, u "java/util/ImmutableCollections$ListN"), (0, u "elements"), (0, u "[Ljava/lang/Object;"), (2, u "allowNulls"), (0, u "Z"), (42, .class_ 60), (0, u "java/io/Serializable"), (13, u "isEmpty"), (0, u "()Z"), (38, .class_ 115), (0, u "java/util/ImmutableCollections")] 3

def k14c0 : Code := { maxStack := 1, maxLocals := 1, code := jdk_45_method_2_code, exceptionTable := #[], attributes := #[] }
def k14m0 : Method := { name := "isEmpty", desc := "()Z", sig := { parameters := [], returnType := some .boolean }, accessFlags := 1, code := some k14c0 }
/-- java/util/ImmutableCollections$ListN -/
def k14 : Class := { plain "java/util/ImmutableCollections$ListN" (some 12) with
  accessFlags := 48
  interfaces := #[13]
  cf := some (fileOf pool14 8 #[.nestHost 114] #[{ accessFlags := 1, nameIndex := 74, descriptorIndex := 75, attributes := #[] }] 48 2 #[59] #[{ accessFlags := 18, nameIndex := 11, descriptorIndex := 12, attributes := #[] }, { accessFlags := 18, nameIndex := 15, descriptorIndex := 16, attributes := #[] }])
  fields := #[{ name := "elements", type := (.array (.object "java/lang/Object")), accessFlags := 18, slot := 0, constantValue := 0 }, { name := "allowNulls", type := .boolean, accessFlags := 18, slot := 1, constantValue := 0 }]
  methods := #[k14m0]
  instanceTypes := #[(.array (.object "java/lang/Object")), .boolean]
  staticTypes := #[]
  resolved := Array.replicate 119 none
  statics := none }

def pool15 : Array CpInfo := pool [(1, .methodref 2 3), (0, .class_ 4), (0, .nameAndType 5 6), (0, u "java/util/AbstractCollection"), (0, u "<init>"), (0, u "()V"), (0, .fieldref 8 9), (0, .class_ 10), (0, .nameAndType 11 12), (0, u "java/util/AbstractList"), (0, u "modCount"), (0, u "I"), (64, .class_ 78), (0, u "java/util/AbstractList$Itr"), (3, .class_ 83), (0, u "java/util/AbstractList$ListItr"), (9, .class_ 94), (0, u "java/util/AbstractList$RandomAccessSubList"), (3, .class_ 99), (0, u "java/util/AbstractList$SubList"), (33, .class_ 134), (0, u "java/util/List"), (73, .class_ 209), (0, u "java/util/AbstractList$SubList$1"), (0, .class_ 211), (0, u "java/util/AbstractList$RandomAccessSpliterator")] 6

def k15c0 : Code := { maxStack := 2, maxLocals := 1, code := jdk_39_method_1_code, exceptionTable := #[], attributes := #[] }
def k15m0 : Method := { name := "<init>", desc := "()V", sig := { parameters := [], returnType := none }, accessFlags := 4, code := some k15c0 }
/-- java/util/AbstractList -/
def k15 : Class := { plain "java/util/AbstractList" (some 9) with
  accessFlags := 1057
  interfaces := #[7]
  cf := some (fileOf pool15 8 #[.nestMembers #[93, 98, 208, 210, 82, 77]] #[{ accessFlags := 4, nameIndex := 5, descriptorIndex := 6, attributes := #[] }] 1057 2 #[133] #[{ accessFlags := 132, nameIndex := 11, descriptorIndex := 12, attributes := #[] }])
  fields := #[{ name := "modCount", type := .int, accessFlags := 132, slot := 0, constantValue := 0 }]
  methods := #[k15m0]
  instanceTypes := #[.int]
  staticTypes := #[]
  resolved := Array.replicate 218 none
  statics := none }

def pool16 : Array CpInfo := pool [(1, .class_ 2), (0, u "java/lang/Cloneable"), (0, .class_ 4), (0, u "java/lang/Object")] 2

/-- java/lang/Cloneable -/
def k16 : Class := { plain "java/lang/Cloneable" (some 0) with
  accessFlags := 1537
  interfaces := #[]
  cf := some (fileOf pool16 1 #[] #[] 1537 3 #[] #[])
  fields := #[]
  methods := #[]
  instanceTypes := #[]
  staticTypes := #[]
  resolved := Array.replicate 7 none
  statics := none }

def pool17 : Array CpInfo := pool [(1, .methodref 2 3), (0, .class_ 4), (0, .nameAndType 5 6), (0, u "java/util/AbstractList"), (0, u "<init>"), (0, u "()V"), (0, .class_ 8), (0, u "java/lang/Object"), (0, .fieldref 10 11), (0, .class_ 12), (0, .nameAndType 13 14), (0, u "java/util/ArrayList"), (0, u "elementData"), (0, u "[Ljava/lang/Object;"), (2, u "EMPTY_ELEMENTDATA"), (23, u "DEFAULTCAPACITY_EMPTY_ELEMENTDATA"), (5, u "()[Ljava/lang/Object;"), (0, .fieldref 10 49), (0, .nameAndType 50 51), (0, u "size"), (0, u "I"), (6, .class_ 60), (1, u "java/util/Arrays"), (0, u "copyOf"), (1, .fieldref 10 64), (0, .nameAndType 65 51), (0, u "modCount"), (0, .methodref 58 67), (0, .nameAndType 61 68), (0, u "([Ljava/lang/Object;I)[Ljava/lang/Object;"), (0, .methodref 10 70), (0, .nameAndType 71 72), (0, u "grow"), (0, u "(I)[Ljava/lang/Object;"), (0, .methodref 74 75), (0, .class_ 76), (0, .nameAndType 77 78), (0, u "jdk/internal/util/ArraysSupport"), (0, u "newLength"), (0, u "(III)I"), (17, u "(Ljava/lang/Object;)Z"), (32, .methodref 10 130), (0, .nameAndType 71 47), (0, .methodref 10 132), (0, .nameAndType 133 134), (0, u "add"), (0, u "(Ljava/lang/Object;[Ljava/lang/Object;I)V"), (3, u "(I)V"), (9, .class_ 149), (0, u "java/util/List"), (23, u "()Z"), (12, u "()I"), (75, .class_ 263), (0, u "java/util/ArrayList$ListItr"), (3, .class_ 268), (0, u "java/util/ArrayList$Itr"), (7, .class_ 277), (0, u "java/util/ArrayList$SubList"), (12, .class_ 291), (0, u "java/util/ArrayList$ArrayListSpliterator"), (37, .class_ 330), (0, u "java/util/RandomAccess"), (0, .class_ 332), (0, u "java/lang/Cloneable"), (0, .class_ 334), (0, u "java/io/Serializable"), (0, u "serialVersionUID"), (0, u "J"), (3, u "DEFAULT_CAPACITY"), (22, u "isEmpty"), (136, .class_ 501), (0, u "java/util/ArrayList$SubList$2"), (0, .class_ 503), (0, u "java/util/ArrayList$SubList$1")] 5

def k17c0 : Code := { maxStack := 4, maxLocals := 2, code := jdk_38_method_1_code, exceptionTable := #[], attributes := #[] }
def k17m0 : Method := { name := "<init>", desc := "(I)V", sig := { parameters := [.int], returnType := none }, accessFlags := 1, code := some k17c0 }
def k17m1 : Method := { name := "<init>", desc := "()V", sig := { parameters := [], returnType := none }, accessFlags := 1, code := none }
def k17c2 : Code := { maxStack := 4, maxLocals := 4, code := jdk_38_method_6_code, exceptionTable := #[], attributes := #[] }
def k17m2 : Method := { name := "grow", desc := "(I)[Ljava/lang/Object;", sig := { parameters := [.int], returnType := some (.array (.object "java/lang/Object")) }, accessFlags := 2, code := some k17c2 }
def k17c3 : Code := { maxStack := 3, maxLocals := 1, code := jdk_38_method_7_code, exceptionTable := #[], attributes := #[] }
def k17m3 : Method := { name := "grow", desc := "()[Ljava/lang/Object;", sig := { parameters := [], returnType := some (.array (.object "java/lang/Object")) }, accessFlags := 2, code := some k17c3 }
def k17c4 : Code := { maxStack := 1, maxLocals := 1, code := jdk_38_method_8_code, exceptionTable := #[], attributes := #[] }
def k17m4 : Method := { name := "size", desc := "()I", sig := { parameters := [], returnType := some .int }, accessFlags := 1, code := some k17c4 }
def k17c5 : Code := { maxStack := 1, maxLocals := 1, code := jdk_38_method_9_code, exceptionTable := #[], attributes := #[] }
def k17m5 : Method := { name := "isEmpty", desc := "()Z", sig := { parameters := [], returnType := some .boolean }, accessFlags := 1, code := some k17c5 }
def k17c6 : Code := { maxStack := 3, maxLocals := 4, code := jdk_38_method_24_code, exceptionTable := #[], attributes := #[] }
def k17m6 : Method := { name := "add", desc := "(Ljava/lang/Object;[Ljava/lang/Object;I)V", sig := { parameters := [(.object "java/lang/Object"), (.array (.object "java/lang/Object")), .int], returnType := none }, accessFlags := 2, code := some k17c6 }
def k17c7 : Code := { maxStack := 4, maxLocals := 2, code := jdk_38_method_25_code, exceptionTable := #[], attributes := #[] }
def k17m7 : Method := { name := "add", desc := "(Ljava/lang/Object;)Z", sig := { parameters := [(.object "java/lang/Object")], returnType := some .boolean }, accessFlags := 1, code := some k17c7 }
/-- java/util/ArrayList -/
def k17 : Class := { plain "java/util/ArrayList" (some 15) with
  accessFlags := 33
  interfaces := #[7, 11, 16, 13]
  cf := some (fileOf pool17 10 #[.nestMembers #[290, 276, 500, 502, 262, 267]] #[{ accessFlags := 1, nameIndex := 5, descriptorIndex := 138, attributes := #[] }, { accessFlags := 1, nameIndex := 5, descriptorIndex := 6, attributes := #[] }, { accessFlags := 2, nameIndex := 71, descriptorIndex := 72, attributes := #[] }, { accessFlags := 2, nameIndex := 71, descriptorIndex := 47, attributes := #[] }, { accessFlags := 1, nameIndex := 50, descriptorIndex := 186, attributes := #[] }, { accessFlags := 1, nameIndex := 363, descriptorIndex := 173, attributes := #[] }, { accessFlags := 2, nameIndex := 133, descriptorIndex := 134, attributes := #[] }, { accessFlags := 1, nameIndex := 133, descriptorIndex := 96, attributes := #[] }] 33 2 #[148, 329, 331, 333] #[{ accessFlags := 26, nameIndex := 335, descriptorIndex := 336, attributes := #[] }, { accessFlags := 26, nameIndex := 340, descriptorIndex := 51, attributes := #[] }, { accessFlags := 26, nameIndex := 17, descriptorIndex := 14, attributes := #[] }, { accessFlags := 26, nameIndex := 41, descriptorIndex := 14, attributes := #[] }, { accessFlags := 128, nameIndex := 13, descriptorIndex := 14, attributes := #[] }, { accessFlags := 2, nameIndex := 50, descriptorIndex := 51, attributes := #[] }])
  fields := #[{ name := "serialVersionUID", type := .long, accessFlags := 26, slot := 0, constantValue := 0 }, { name := "DEFAULT_CAPACITY", type := .int, accessFlags := 26, slot := 1, constantValue := 0 }, { name := "EMPTY_ELEMENTDATA", type := (.array (.object "java/lang/Object")), accessFlags := 26, slot := 2, constantValue := 0 }, { name := "DEFAULTCAPACITY_EMPTY_ELEMENTDATA", type := (.array (.object "java/lang/Object")), accessFlags := 26, slot := 3, constantValue := 0 }, { name := "elementData", type := (.array (.object "java/lang/Object")), accessFlags := 128, slot := 1, constantValue := 0 }, { name := "size", type := .int, accessFlags := 2, slot := 2, constantValue := 0 }]
  methods := #[k17m0, k17m1, k17m2, k17m3, k17m4, k17m5, k17m6, k17m7]
  instanceTypes := #[.int, (.array (.object "java/lang/Object")), .int]
  staticTypes := #[.long, .int, (.array (.object "java/lang/Object")), (.array (.object "java/lang/Object"))]
  resolved := Array.replicate 509 none
  statics := none }

def pool18 : Array CpInfo := pool [(9, u "<init>"), (6, .class_ 18), (1, u "java/lang/Object"), (0, u "()V"), (1, .class_ 23), (1, u "jdk/internal/util/ArraysSupport"), (0, u "LOG2_ARRAY_LONG_INDEX_SCALE"), (0, u "I"), (2, u "U"), (0, u "Ljdk/internal/misc/Unsafe;"), (8, u "BIG_ENDIAN"), (0, u "Z"), (8, u "LOG2_BYTE_BIT_SIZE"), (4, u "LOG2_ARRAY_INT_INDEX_SCALE"), (54, u "JLA"), (0, u "Ljdk/internal/access/JavaLangAccess;"), (11, u "LOG2_ARRAY_BOOLEAN_INDEX_SCALE"), (9, u "LOG2_ARRAY_BYTE_INDEX_SCALE"), (5, u "LOG2_ARRAY_CHAR_INDEX_SCALE"), (5, u "LOG2_ARRAY_SHORT_INDEX_SCALE"), (18, u "LOG2_ARRAY_FLOAT_INDEX_SCALE"), (24, u "LOG2_ARRAY_DOUBLE_INDEX_SCALE"), (6, .methodref 195 196), (0, .class_ 197), (0, .nameAndType 198 199), (0, u "java/lang/Math"), (0, u "max"), (0, u "(II)I"), (0, .integer 2147483639), (76, u "T_BOOLEAN"), (2, u "T_CHAR"), (1, u "T_FLOAT"), (1, u "T_DOUBLE"), (1, u "T_BYTE"), (1, u "T_SHORT"), (1, u "T_INT"), (1, u "T_LONG"), (1, u "SOFT_MAX_ARRAY_LENGTH"), (56, u "newLength"), (0, u "(III)I")] 25

def k18m0 : Method := { name := "<init>", desc := "()V", sig := { parameters := [], returnType := none }, accessFlags := 2, code := none }
def k18c1 : Code := { maxStack := 3, maxLocals := 4, code := jdk_48_method_27_code, exceptionTable := #[], attributes := #[] }
def k18m1 : Method := { name := "newLength", desc := "(III)I", sig := { parameters := [.int, .int, .int], returnType := some .int }, accessFlags := 9, code := some k18c1 }
/-- jdk/internal/util/ArraysSupport -/
def k18 : Class := { plain "jdk/internal/util/ArraysSupport" (some 0) with
  accessFlags := 33
  interfaces := #[]
  cf := some (fileOf pool18 21 #[] #[{ accessFlags := 2, nameIndex := 9, descriptorIndex := 19, attributes := #[] }, { accessFlags := 9, nameIndex := 351, descriptorIndex := 352, attributes := #[] }] 33 16 #[] #[{ accessFlags := 24, nameIndex := 28, descriptorIndex := 29, attributes := #[] }, { accessFlags := 26, nameIndex := 38, descriptorIndex := 39, attributes := #[] }, { accessFlags := 25, nameIndex := 121, descriptorIndex := 25, attributes := #[] }, { accessFlags := 25, nameIndex := 131, descriptorIndex := 25, attributes := #[] }, { accessFlags := 25, nameIndex := 137, descriptorIndex := 25, attributes := #[] }, { accessFlags := 25, nameIndex := 143, descriptorIndex := 25, attributes := #[] }, { accessFlags := 25, nameIndex := 53, descriptorIndex := 25, attributes := #[] }, { accessFlags := 25, nameIndex := 24, descriptorIndex := 25, attributes := #[] }, { accessFlags := 25, nameIndex := 162, descriptorIndex := 25, attributes := #[] }, { accessFlags := 25, nameIndex := 187, descriptorIndex := 25, attributes := #[] }, { accessFlags := 26, nameIndex := 48, descriptorIndex := 25, attributes := #[] }, { accessFlags := 25, nameIndex := 277, descriptorIndex := 25, attributes := #[] }, { accessFlags := 25, nameIndex := 280, descriptorIndex := 25, attributes := #[] }, { accessFlags := 25, nameIndex := 282, descriptorIndex := 25, attributes := #[] }, { accessFlags := 25, nameIndex := 284, descriptorIndex := 25, attributes := #[] }, { accessFlags := 25, nameIndex := 286, descriptorIndex := 25, attributes := #[] }, { accessFlags := 25, nameIndex := 288, descriptorIndex := 25, attributes := #[] }, { accessFlags := 25, nameIndex := 290, descriptorIndex := 25, attributes := #[] }, { accessFlags := 25, nameIndex := 292, descriptorIndex := 25, attributes := #[] }, { accessFlags := 26, nameIndex := 108, descriptorIndex := 109, attributes := #[] }, { accessFlags := 25, nameIndex := 294, descriptorIndex := 25, attributes := #[] }])
  fields := #[{ name := "U", type := (.object "jdk/internal/misc/Unsafe"), accessFlags := 24, slot := 0, constantValue := 0 }, { name := "BIG_ENDIAN", type := .boolean, accessFlags := 26, slot := 1, constantValue := 0 }, { name := "LOG2_ARRAY_BOOLEAN_INDEX_SCALE", type := .int, accessFlags := 25, slot := 2, constantValue := 0 }, { name := "LOG2_ARRAY_BYTE_INDEX_SCALE", type := .int, accessFlags := 25, slot := 3, constantValue := 0 }, { name := "LOG2_ARRAY_CHAR_INDEX_SCALE", type := .int, accessFlags := 25, slot := 4, constantValue := 0 }, { name := "LOG2_ARRAY_SHORT_INDEX_SCALE", type := .int, accessFlags := 25, slot := 5, constantValue := 0 }, { name := "LOG2_ARRAY_INT_INDEX_SCALE", type := .int, accessFlags := 25, slot := 6, constantValue := 0 }, { name := "LOG2_ARRAY_LONG_INDEX_SCALE", type := .int, accessFlags := 25, slot := 7, constantValue := 0 }, { name := "LOG2_ARRAY_FLOAT_INDEX_SCALE", type := .int, accessFlags := 25, slot := 8, constantValue := 0 }, { name := "LOG2_ARRAY_DOUBLE_INDEX_SCALE", type := .int, accessFlags := 25, slot := 9, constantValue := 0 }, { name := "LOG2_BYTE_BIT_SIZE", type := .int, accessFlags := 26, slot := 10, constantValue := 0 }, { name := "T_BOOLEAN", type := .int, accessFlags := 25, slot := 11, constantValue := 0 }, { name := "T_CHAR", type := .int, accessFlags := 25, slot := 12, constantValue := 0 }, { name := "T_FLOAT", type := .int, accessFlags := 25, slot := 13, constantValue := 0 }, { name := "T_DOUBLE", type := .int, accessFlags := 25, slot := 14, constantValue := 0 }, { name := "T_BYTE", type := .int, accessFlags := 25, slot := 15, constantValue := 0 }, { name := "T_SHORT", type := .int, accessFlags := 25, slot := 16, constantValue := 0 }, { name := "T_INT", type := .int, accessFlags := 25, slot := 17, constantValue := 0 }, { name := "T_LONG", type := .int, accessFlags := 25, slot := 18, constantValue := 0 }, { name := "JLA", type := (.object "jdk/internal/access/JavaLangAccess"), accessFlags := 26, slot := 19, constantValue := 0 }, { name := "SOFT_MAX_ARRAY_LENGTH", type := .int, accessFlags := 25, slot := 20, constantValue := 0 }]
  methods := #[k18m0, k18m1]
  instanceTypes := #[]
  staticTypes := #[(.object "jdk/internal/misc/Unsafe"), .boolean, .int, .int, .int, .int, .int, .int, .int, .int, .int, .int, .int, .int, .int, .int, .int, .int, .int, (.object "jdk/internal/access/JavaLangAccess"), .int]
  resolved := Array.replicate 378 none
  statics := none }

def pool19 : Array CpInfo := pool [(1, .class_ 2), (0, u "java/lang/Math"), (1, .class_ 6), (1, u "java/lang/Object"), (0, u "<init>"), (0, u "()V"), (89, .class_ 100), (1, u "java/lang/Math$RandomNumberGeneratorHolder"), (71, u "negativeZeroFloatBits"), (0, u "J"), (2, u "negativeZeroDoubleBits"), (21, u "max"), (2, u "min"), (43, u "$assertionsDisabled"), (0, u "Z"), (88, u "(II)I"), (2, u "twoToTheDoubleScaleDown"), (0, u "D"), (4, u "twoToTheDoubleScaleUp"), (9, u "E"), (3, u "PI"), (2, u "TAU"), (2, u "DEGREES_TO_RADIANS"), (0, u "RADIANS_TO_DEGREES")] 94

def k19m0 : Method := { name := "<init>", desc := "()V", sig := { parameters := [], returnType := none }, accessFlags := 2, code := none }
def k19c1 : Code := { maxStack := 2, maxLocals := 2, code := jdk_29_method_65_code, exceptionTable := #[], attributes := #[] }
def k19m1 : Method := { name := "max", desc := "(II)I", sig := { parameters := [.int, .int], returnType := some .int }, accessFlags := 9, code := some k19c1 }
def k19c2 : Code := { maxStack := 2, maxLocals := 2, code := jdk_29_method_69_code, exceptionTable := #[], attributes := #[] }
def k19m2 : Method := { name := "min", desc := "(II)I", sig := { parameters := [.int, .int], returnType := some .int }, accessFlags := 9, code := some k19c2 }
/-- java/lang/Math -/
def k19 : Class := { plain "java/lang/Math" (some 0) with
  accessFlags := 49
  interfaces := #[]
  cf := some (fileOf pool19 1 #[.nestMembers #[98]] #[{ accessFlags := 2, nameIndex := 7, descriptorIndex := 8, attributes := #[] }, { accessFlags := 9, nameIndex := 198, descriptorIndex := 335, attributes := #[] }, { accessFlags := 9, nameIndex := 201, descriptorIndex := 335, attributes := #[] }] 49 4 #[] #[{ accessFlags := 25, nameIndex := 354, descriptorIndex := 339, attributes := #[] }, { accessFlags := 25, nameIndex := 358, descriptorIndex := 339, attributes := #[] }, { accessFlags := 25, nameIndex := 361, descriptorIndex := 339, attributes := #[] }, { accessFlags := 26, nameIndex := 364, descriptorIndex := 339, attributes := #[] }, { accessFlags := 26, nameIndex := 365, descriptorIndex := 339, attributes := #[] }, { accessFlags := 26, nameIndex := 172, descriptorIndex := 173, attributes := #[] }, { accessFlags := 26, nameIndex := 176, descriptorIndex := 173, attributes := #[] }, { accessFlags := 8, nameIndex := 344, descriptorIndex := 339, attributes := #[] }, { accessFlags := 8, nameIndex := 338, descriptorIndex := 339, attributes := #[] }, { accessFlags := 4120, nameIndex := 245, descriptorIndex := 246, attributes := #[] }])
  fields := #[{ name := "E", type := .double, accessFlags := 25, slot := 0, constantValue := 0 }, { name := "PI", type := .double, accessFlags := 25, slot := 1, constantValue := 0 }, { name := "TAU", type := .double, accessFlags := 25, slot := 2, constantValue := 0 }, { name := "DEGREES_TO_RADIANS", type := .double, accessFlags := 26, slot := 3, constantValue := 0 }, { name := "RADIANS_TO_DEGREES", type := .double, accessFlags := 26, slot := 4, constantValue := 0 }, { name := "negativeZeroFloatBits", type := .long, accessFlags := 26, slot := 5, constantValue := 0 }, { name := "negativeZeroDoubleBits", type := .long, accessFlags := 26, slot := 6, constantValue := 0 }, { name := "twoToTheDoubleScaleUp", type := .double, accessFlags := 8, slot := 7, constantValue := 0 }, { name := "twoToTheDoubleScaleDown", type := .double, accessFlags := 8, slot := 8, constantValue := 0 }, { name := "$assertionsDisabled", type := .boolean, accessFlags := 4120, slot := 9, constantValue := 0 }]
  methods := #[k19m0, k19m1, k19m2]
  instanceTypes := #[]
  staticTypes := #[.double, .double, .double, .double, .double, .long, .long, .double, .double, .boolean]
  resolved := Array.replicate 460 none
  statics := none }

def pool20 : Array CpInfo := pool [(2, .class_ 4), (1, u "java/lang/Object"), (0, u "<init>"), (0, u "()V"), (7, .class_ 16), (1, u "java/util/Arrays"), (57, .class_ 76), (1, u "java/util/Arrays$NaturalOrder"), (9, .methodref 2 87), (0, .nameAndType 88 89), (0, u "getClass"), (0, u "()Ljava/lang/Class;"), (20, .class_ 111), (0, u "[Ljava/lang/Object;"), (1, .class_ 115), (1, u "java/util/Arrays$LegacyMergeSort"), (1, u "Z"), (32, .methodref 151 152), (0, .class_ 153), (0, .nameAndType 154 155), (0, u "java/lang/System"), (0, u "arraycopy"), (0, u "(Ljava/lang/Object;ILjava/lang/Object;II)V"), (144, .methodref 14 301), (0, .nameAndType 302 303), (0, u "copyOf"), (0, u "([Ljava/lang/Object;ILjava/lang/Class;)[Ljava/lang/Object;"), (0, .methodref 305 306), (0, .class_ 307), (0, .nameAndType 308 309), (0, u "java/lang/Math"), (0, u "min"), (0, u "(II)I"), (65, .class_ 376), (0, u "java/util/Arrays$ArrayList"), (68, u "$assertionsDisabled"), (269, u "MIN_ARRAY_SORT_GRAN"), (0, u "I"), (2, u "INSERTIONSORT_THRESHOLD"), (140, u "([Ljava/lang/Object;I)[Ljava/lang/Object;"), (114, .class_ 976), (0, u "java/util/Arrays$ArrayItr")] 52

def k20m0 : Method := { name := "<init>", desc := "()V", sig := { parameters := [], returnType := none }, accessFlags := 2, code := none }
def k20c1 : Code := { maxStack := 3, maxLocals := 2, code := jdk_65_method_119_code, exceptionTable := #[], attributes := #[] }
def k20m1 : Method := { name := "copyOf", desc := "([Ljava/lang/Object;I)[Ljava/lang/Object;", sig := { parameters := [(.array (.object "java/lang/Object")), .int], returnType := some (.array (.object "java/lang/Object")) }, accessFlags := 9, code := some k20c1 }
def k20c2 : Code := { maxStack := 6, maxLocals := 4, code := jdk_65_method_120_code, exceptionTable := #[], attributes := #[] }
def k20m2 : Method := { name := "copyOf", desc := "([Ljava/lang/Object;ILjava/lang/Class;)[Ljava/lang/Object;", sig := { parameters := [(.array (.object "java/lang/Object")), .int, (.object "java/lang/Class")], returnType := some (.array (.object "java/lang/Object")) }, accessFlags := 9, code := some k20c2 }
/-- java/util/Arrays -/
def k20 : Class := { plain "java/util/Arrays" (some 0) with
  accessFlags := 49
  interfaces := #[]
  cf := some (fileOf pool20 14 #[.nestMembers #[975, 375, 113, 74]] #[{ accessFlags := 2, nameIndex := 5, descriptorIndex := 6, attributes := #[] }, { accessFlags := 9, nameIndex := 302, descriptorIndex := 860, attributes := #[] }, { accessFlags := 9, nameIndex := 302, descriptorIndex := 303, attributes := #[] }] 49 2 #[] #[{ accessFlags := 26, nameIndex := 715, descriptorIndex := 716, attributes := #[] }, { accessFlags := 26, nameIndex := 719, descriptorIndex := 716, attributes := #[] }, { accessFlags := 4120, nameIndex := 445, descriptorIndex := 117, attributes := #[] }])
  fields := #[{ name := "MIN_ARRAY_SORT_GRAN", type := .int, accessFlags := 26, slot := 0, constantValue := 0 }, { name := "INSERTIONSORT_THRESHOLD", type := .int, accessFlags := 26, slot := 1, constantValue := 0 }, { name := "$assertionsDisabled", type := .boolean, accessFlags := 4120, slot := 2, constantValue := 0 }]
  methods := #[k20m0, k20m1, k20m2]
  instanceTypes := #[]
  staticTypes := #[.int, .int, .boolean]
  resolved := Array.replicate 1029 none
  statics := none }

def pool21 : Array CpInfo := pool [(2, .class_ 4), (1, u "java/lang/Object"), (0, u "<init>"), (0, u "()V"), (1, .class_ 10), (1, u "java/lang/System"), (0, u "allowSecurityManager"), (0, u "I"), (16, u "cons"), (0, u "Ljava/io/Console;"), (77, .class_ 110), (1, u "java/lang/System$CallersHolder"), (43, u "initialErrStream"), (0, u "Ljava/io/PrintStream;"), (19, u "security"), (0, u "Ljava/lang/SecurityManager;"), (31, .class_ 209), (0, u "java/lang/System$1"), (7, u "props"), (0, u "Ljava/util/Properties;"), (2, u "lineSeparator"), (0, u "Ljava/lang/String;"), (96, .class_ 321), (1, u "java/lang/System$LoggerFinder"), (5, .class_ 328), (0, u "java/lang/System$Logger"), (67, u "err"), (2, u "out"), (91, u "notSupportedJnuEncoding"), (15, u "in"), (17, u "initialIn"), (0, u "Ljava/io/InputStream;"), (35, u "bootLayer"), (0, u "Ljava/lang/ModuleLayer;"), (99, .class_ 664), (0, u "java/lang/System$2"), (9, u "NEVER"), (2, u "MAYBE"), (49, u "arraycopy"), (0, u "(Ljava/lang/Object;ILjava/lang/Object;II)V"), (72, .class_ 802), (0, u "java/lang/System$Logger$Level")] 31

def k21m0 : Method := { name := "<init>", desc := "()V", sig := { parameters := [], returnType := none }, accessFlags := 2, code := none }
def k21m1 : Method := { name := "arraycopy", desc := "(Ljava/lang/Object;ILjava/lang/Object;II)V", sig := { parameters := [(.object "java/lang/Object"), .int, (.object "java/lang/Object"), .int, .int], returnType := none }, accessFlags := 265, code := none }
/-- java/lang/System -/
def k21 : Class := { plain "java/lang/System" (some 0) with
  accessFlags := 49
  interfaces := #[]
  cf := some (fileOf pool21 8 #[.nestMembers #[319, 327, 801, 108, 663, 208]] #[{ accessFlags := 2, nameIndex := 5, descriptorIndex := 6, attributes := #[] }, { accessFlags := 265, nameIndex := 727, descriptorIndex := 728, attributes := #[] }] 49 2 #[] #[{ accessFlags := 25, nameIndex := 507, descriptorIndex := 526, attributes := #[] }, { accessFlags := 25, nameIndex := 399, descriptorIndex := 155, attributes := #[] }, { accessFlags := 25, nameIndex := 396, descriptorIndex := 155, attributes := #[] }, { accessFlags := 10, nameIndex := 525, descriptorIndex := 526, attributes := #[] }, { accessFlags := 26, nameIndex := 674, descriptorIndex := 12, attributes := #[] }, { accessFlags := 26, nameIndex := 677, descriptorIndex := 12, attributes := #[] }, { accessFlags := 10, nameIndex := 11, descriptorIndex := 12, attributes := #[] }, { accessFlags := 74, nameIndex := 175, descriptorIndex := 176, attributes := #[] }, { accessFlags := 10, nameIndex := 491, descriptorIndex := 222, attributes := #[] }, { accessFlags := 74, nameIndex := 29, descriptorIndex := 30, attributes := #[] }, { accessFlags := 74, nameIndex := 154, descriptorIndex := 155, attributes := #[] }, { accessFlags := 10, nameIndex := 217, descriptorIndex := 218, attributes := #[] }, { accessFlags := 10, nameIndex := 221, descriptorIndex := 222, attributes := #[] }, { accessFlags := 8, nameIndex := 562, descriptorIndex := 563, attributes := #[] }])
  fields := #[{ name := "in", type := (.object "java/io/InputStream"), accessFlags := 25, slot := 0, constantValue := 0 }, { name := "out", type := (.object "java/io/PrintStream"), accessFlags := 25, slot := 1, constantValue := 0 }, { name := "err", type := (.object "java/io/PrintStream"), accessFlags := 25, slot := 2, constantValue := 0 }, { name := "initialIn", type := (.object "java/io/InputStream"), accessFlags := 10, slot := 3, constantValue := 0 }, { name := "NEVER", type := .int, accessFlags := 26, slot := 4, constantValue := 0 }, { name := "MAYBE", type := .int, accessFlags := 26, slot := 5, constantValue := 0 }, { name := "allowSecurityManager", type := .int, accessFlags := 10, slot := 6, constantValue := 0 }, { name := "security", type := (.object "java/lang/SecurityManager"), accessFlags := 74, slot := 7, constantValue := 0 }, { name := "notSupportedJnuEncoding", type := (.object "java/lang/String"), accessFlags := 10, slot := 8, constantValue := 0 }, { name := "cons", type := (.object "java/io/Console"), accessFlags := 74, slot := 9, constantValue := 0 }, { name := "initialErrStream", type := (.object "java/io/PrintStream"), accessFlags := 74, slot := 10, constantValue := 0 }, { name := "props", type := (.object "java/util/Properties"), accessFlags := 10, slot := 11, constantValue := 0 }, { name := "lineSeparator", type := (.object "java/lang/String"), accessFlags := 10, slot := 12, constantValue := 0 }, { name := "bootLayer", type := (.object "java/lang/ModuleLayer"), accessFlags := 8, slot := 13, constantValue := 0 }]
  methods := #[k21m0, k21m1]
  instanceTypes := #[]
  staticTypes := #[(.object "java/io/InputStream"), (.object "java/io/PrintStream"), (.object "java/io/PrintStream"), (.object "java/io/InputStream"), .int, .int, .int, (.object "java/lang/SecurityManager"), (.object "java/lang/String"), (.object "java/io/Console"), (.object "java/io/PrintStream"), (.object "java/util/Properties"), (.object "java/lang/String"), (.object "java/lang/ModuleLayer")]
  resolved := Array.replicate 834 none
  statics := none }

def pool22 : Array CpInfo := pool [(1, .methodref 2 3), (0, .class_ 4), (0, .nameAndType 5 6), (0, u "java/lang/Object"), (0, u "<init>"), (0, u "()V"), (0, .fieldref 8 9), (0, .class_ 10), (0, .nameAndType 11 12), (0, u "com/example/latchwork/latchwork/engine/SyncList"), (0, u "NONE"), (0, u "[Lcom/example/latchwork/latchwork/engine/SyncState;"), (0, .fieldref 8 14), (0, .nameAndType 15 12), (0, u "more"), (0, .fieldref 8 17), (0, .nameAndType 18 19), (0, u "count"), (0, u "I"), (0, .fieldref 8 21), (0, .nameAndType 22 23), (0, u "first"), (0, u "Lcom/example/latchwork/latchwork/engine/SyncState;"), (0, .methodref 25 26), (0, .class_ 27), (0, .nameAndType 28 29), (0, u "java/lang/Math"), (0, u "max"), (0, u "(II)I"), (0, .methodref 31 32), (0, .class_ 33), (0, .nameAndType 34 35), (0, u "java/util/Arrays"), (0, u "copyOf"), (0, u "([Ljava/lang/Object;I)[Ljava/lang/Object;"), (36, u "addSync"), (0, u "(Lcom/example/latchwork/latchwork/engine/SyncState;)V")] 5

def k22c0 : Code := { maxStack := 2, maxLocals := 1, code := prog_37_method_1_code, exceptionTable := #[], attributes := #[] }
def k22m0 : Method := { name := "<init>", desc := "()V", sig := { parameters := [], returnType := none }, accessFlags := 0, code := some k22c0 }
def k22c1 : Code := { maxStack := 5, maxLocals := 2, code := prog_37_method_4_code, exceptionTable := #[], attributes := #[] }
def k22m1 : Method := { name := "addSync", desc := "(Lcom/example/latchwork/latchwork/engine/SyncState;)V", sig := { parameters := [(.object "com/example/latchwork/latchwork/engine/SyncState")], returnType := none }, accessFlags := 16, code := some k22c1 }
/-- com/example/latchwork/latchwork/engine/SyncList -/
def k22 : Class := { plain "com/example/latchwork/latchwork/engine/SyncList" (some 0) with
  accessFlags := 1056
  interfaces := #[]
  cf := some (fileOf pool22 8 #[] #[{ accessFlags := 0, nameIndex := 5, descriptorIndex := 6, attributes := #[] }, { accessFlags := 16, nameIndex := 72, descriptorIndex := 73, attributes := #[] }] 1056 2 #[] #[{ accessFlags := 26, nameIndex := 11, descriptorIndex := 12, attributes := #[] }, { accessFlags := 2, nameIndex := 22, descriptorIndex := 23, attributes := #[] }, { accessFlags := 2, nameIndex := 15, descriptorIndex := 12, attributes := #[] }, { accessFlags := 2, nameIndex := 18, descriptorIndex := 19, attributes := #[] }])
  fields := #[{ name := "NONE", type := (.array (.object "com/example/latchwork/latchwork/engine/SyncState")), accessFlags := 26, slot := 0, constantValue := 0 }, { name := "first", type := (.object "com/example/latchwork/latchwork/engine/SyncState"), accessFlags := 2, slot := 0, constantValue := 0 }, { name := "more", type := (.array (.object "com/example/latchwork/latchwork/engine/SyncState")), accessFlags := 2, slot := 1, constantValue := 0 }, { name := "count", type := .int, accessFlags := 2, slot := 2, constantValue := 0 }]
  methods := #[k22m0, k22m1]
  instanceTypes := #[(.object "com/example/latchwork/latchwork/engine/SyncState"), (.array (.object "com/example/latchwork/latchwork/engine/SyncState")), .int]
  staticTypes := #[(.array (.object "com/example/latchwork/latchwork/engine/SyncState"))]
  resolved := Array.replicate 79 none
  statics := some 3 }

def pool23 : Array CpInfo := pool [(1, .methodref 2 3), (0, .class_ 4), (0, .nameAndType 5 6), (0, u "com/example/latchwork/latchwork/engine/SyncList"), (0, u "<init>"), (0, u "()V"), (0, .fieldref 8 9), (0, .class_ 10), (0, .nameAndType 11 12), (0, u "com/example/latchwork/latchwork/engine/Unit"), (0, u "NO_RUNS"), (0, u "[Ljava/lang/Object;"), (0, .fieldref 8 14), (0, .nameAndType 15 12), (0, u "runs"), (2, .methodref 8 3), (0, .methodref 8 20), (0, .nameAndType 21 22), (0, u "addSync"), (0, u "(Lcom/example/latchwork/latchwork/engine/SyncState;)V"), (0, .methodref 24 25), (0, .class_ 26), (0, .nameAndType 27 28), (0, u "com/example/latchwork/latchwork/engine/SyncState"), (0, u "pending"), (0, u "()I"), (0, .fieldref 8 30), (0, .nameAndType 27 31), (0, u "I"), (0, .methodref 24 33), (0, .nameAndType 34 35), (0, u "isReady"), (0, u "()Z"), (0, .fieldref 8 37), (0, .nameAndType 38 31), (0, u "unready"), (0, .methodref 24 40), (0, .nameAndType 41 42), (0, u "setUnit"), (0, u "(Lcom/example/latchwork/latchwork/engine/Unit;)V"), (14, u "arrived"), (10, u "size"), (81, u "runCount"), (18, .class_ 170), (0, u "com/example/latchwork/latchwork/engine/Unit$Run"), (14, u "bySurface"), (0, u "Ljava/util/Map;"), (41, u "completedAt"), (0, u "J"), (56, u "FRAME_ORDER"), (0, u "Ljava/util/Comparator;"), (35, u "released"), (0, u "Z"), (32, u "forSync"), (0, u "(Lcom/example/latchwork/latchwork/engine/SyncState;)Lcom/example/latchwork/latchwork/engine/Unit;"), (15, u "countReady")] 38

def k23c0 : Code := { maxStack := 2, maxLocals := 1, code := prog_47_method_1_code, exceptionTable := #[], attributes := #[] }
def k23m0 : Method := { name := "<init>", desc := "()V", sig := { parameters := [], returnType := none }, accessFlags := 0, code := some k23c0 }
def k23c1 : Code := { maxStack := 2, maxLocals := 2, code := prog_47_method_3_code, exceptionTable := #[], attributes := #[] }
def k23m1 : Method := { name := "forSync", desc := "(Lcom/example/latchwork/latchwork/engine/SyncState;)Lcom/example/latchwork/latchwork/engine/Unit;", sig := { parameters := [(.object "com/example/latchwork/latchwork/engine/SyncState")], returnType := some (.object "com/example/latchwork/latchwork/engine/Unit") }, accessFlags := 8, code := some k23c1 }
def k23c2 : Code := { maxStack := 3, maxLocals := 1, code := prog_47_method_21_code, exceptionTable := #[], attributes := #[] }
def k23m2 : Method := { name := "countReady", desc := "()V", sig := { parameters := [], returnType := none }, accessFlags := 0, code := some k23c2 }
/-- com/example/latchwork/latchwork/engine/Unit -/
def k23 : Class := { plain "com/example/latchwork/latchwork/engine/Unit" (some 22) with
  accessFlags := 48
  interfaces := #[]
  cf := some (fileOf pool23 8 #[.nestMembers #[169]] #[{ accessFlags := 0, nameIndex := 5, descriptorIndex := 6, attributes := #[] }, { accessFlags := 8, nameIndex := 357, descriptorIndex := 358, attributes := #[] }, { accessFlags := 0, nameIndex := 374, descriptorIndex := 6, attributes := #[] }] 48 2 #[] #[{ accessFlags := 2, nameIndex := 15, descriptorIndex := 12, attributes := #[] }, { accessFlags := 2, nameIndex := 150, descriptorIndex := 31, attributes := #[] }, { accessFlags := 2, nameIndex := 185, descriptorIndex := 186, attributes := #[] }, { accessFlags := 2, nameIndex := 68, descriptorIndex := 31, attributes := #[] }, { accessFlags := 2, nameIndex := 27, descriptorIndex := 31, attributes := #[] }, { accessFlags := 2, nameIndex := 38, descriptorIndex := 31, attributes := #[] }, { accessFlags := 2, nameIndex := 57, descriptorIndex := 31, attributes := #[] }, { accessFlags := 2, nameIndex := 228, descriptorIndex := 229, attributes := #[] }, { accessFlags := 2, nameIndex := 323, descriptorIndex := 324, attributes := #[] }, { accessFlags := 26, nameIndex := 11, descriptorIndex := 12, attributes := #[] }, { accessFlags := 26, nameIndex := 286, descriptorIndex := 287, attributes := #[] }])
  fields := #[{ name := "runs", type := (.array (.object "java/lang/Object")), accessFlags := 2, slot := 3, constantValue := 0 }, { name := "runCount", type := .int, accessFlags := 2, slot := 4, constantValue := 0 }, { name := "bySurface", type := (.object "java/util/Map"), accessFlags := 2, slot := 5, constantValue := 0 }, { name := "size", type := .int, accessFlags := 2, slot := 6, constantValue := 0 }, { name := "pending", type := .int, accessFlags := 2, slot := 7, constantValue := 0 }, { name := "unready", type := .int, accessFlags := 2, slot := 8, constantValue := 0 }, { name := "arrived", type := .int, accessFlags := 2, slot := 9, constantValue := 0 }, { name := "completedAt", type := .long, accessFlags := 2, slot := 10, constantValue := 0 }, { name := "released", type := .boolean, accessFlags := 2, slot := 11, constantValue := 0 }, { name := "NO_RUNS", type := (.array (.object "java/lang/Object")), accessFlags := 26, slot := 0, constantValue := 0 }, { name := "FRAME_ORDER", type := (.object "java/util/Comparator"), accessFlags := 26, slot := 1, constantValue := 0 }]
  methods := #[k23m0, k23m1, k23m2]
  instanceTypes := #[(.object "com/example/latchwork/latchwork/engine/SyncState"), (.array (.object "com/example/latchwork/latchwork/engine/SyncState")), .int, (.array (.object "java/lang/Object")), .int, (.object "java/util/Map"), .int, .int, .int, .int, .long, .boolean]
  staticTypes := #[(.array (.object "java/lang/Object")), (.object "java/util/Comparator")]
  resolved := Array.replicate 413 none
  statics := some 4 }

def pool24 : Array CpInfo := pool [(2, .class_ 4), (1, u "java/lang/Object"), (3, .class_ 10), (1, u "com/example/latchwork/latchwork/engine/SyncState$Part"), (0, u "sync"), (0, u "Lcom/example/latchwork/latchwork/engine/SyncState;"), (2, u "lane"), (0, u "Lcom/example/latchwork/latchwork/engine/Lane;"), (2, u "adding"), (0, u "Z"), (2, u "frame"), (0, u "Lcom/example/latchwork/latchwork/engine/Lane$Slot;"), (2, u "withdrawn"), (2, u "held"), (0, u "Ljava/util/List;"), (33, .class_ 67), (1, u "com/example/latchwork/latchwork/engine/SyncState")] 65

/-- com/example/latchwork/latchwork/engine/SyncState$Part -/
def k24 : Class := { plain "com/example/latchwork/latchwork/engine/SyncState$Part" (some 0) with
  accessFlags := 48
  interfaces := #[]
  cf := some (fileOf pool24 8 #[.nestHost 65] #[] 48 2 #[] #[{ accessFlags := 18, nameIndex := 11, descriptorIndex := 12, attributes := #[] }, { accessFlags := 18, nameIndex := 15, descriptorIndex := 16, attributes := #[] }, { accessFlags := 2, nameIndex := 23, descriptorIndex := 24, attributes := #[] }, { accessFlags := 2, nameIndex := 19, descriptorIndex := 20, attributes := #[] }, { accessFlags := 2, nameIndex := 27, descriptorIndex := 20, attributes := #[] }, { accessFlags := 2, nameIndex := 30, descriptorIndex := 31, attributes := #[] }])
  fields := #[{ name := "sync", type := (.object "com/example/latchwork/latchwork/engine/SyncState"), accessFlags := 18, slot := 0, constantValue := 0 }, { name := "lane", type := (.object "com/example/latchwork/latchwork/engine/Lane"), accessFlags := 18, slot := 1, constantValue := 0 }, { name := "frame", type := (.object "com/example/latchwork/latchwork/engine/Lane$Slot"), accessFlags := 2, slot := 2, constantValue := 0 }, { name := "adding", type := .boolean, accessFlags := 2, slot := 3, constantValue := 0 }, { name := "withdrawn", type := .boolean, accessFlags := 2, slot := 4, constantValue := 0 }, { name := "held", type := (.object "java/util/List"), accessFlags := 2, slot := 5, constantValue := 0 }]
  methods := #[]
  instanceTypes := #[(.object "com/example/latchwork/latchwork/engine/SyncState"), (.object "com/example/latchwork/latchwork/engine/Lane"), (.object "com/example/latchwork/latchwork/engine/Lane$Slot"), .boolean, .boolean, (.object "java/util/List")]
  staticTypes := #[]
  resolved := Array.replicate 133 none
  statics := none }

def pool25 : Array CpInfo := pool [(1, .class_ 2), (0, u "java/lang/Class"), (0, .class_ 4), (0, u "java/lang/Object")] 0

/-- java/lang/Class -/
def k25 : Class := { plain "java/lang/Class" (some 0) with
  accessFlags := 49
  interfaces := #[]
  cf := some (fileOf pool25 1 #[] #[] 49 3 #[] #[])
  fields := #[]
  methods := #[]
  instanceTypes := #[]
  staticTypes := #[]
  resolved := Array.replicate 5 none
  statics := none }

/-- the primitive byte -/
def k26 : Class := { plain "byte" none with kind := .primitive 'B', accessFlags := 0x411 }
/-- [B -/
def k27 : Class := { plain "[B" (some 0) with kind := .array 26 .byte, interfaces := #[16, 13], accessFlags := 1041 }

/-- the primitive int -/
def k28 : Class := { plain "int" none with kind := .primitive 'I', accessFlags := 0x411 }
/-- [I -/
def k29 : Class := { plain "[I" (some 0) with kind := .array 28 .int, interfaces := #[16, 13], accessFlags := 1041 }

/-- [Lcom/example/latchwork/latchwork/engine/SyncState; -/
def k30 : Class := { plain "[Lcom/example/latchwork/latchwork/engine/SyncState;" (some 0) with kind := .array 2 (.object "com/example/latchwork/latchwork/engine/SyncState"), interfaces := #[16, 13], accessFlags := 1041 }

/-- [Lcom/example/latchwork/latchwork/engine/SyncState$Part; -/
def k31 : Class := { plain "[Lcom/example/latchwork/latchwork/engine/SyncState$Part;" (some 0) with kind := .array 24 (.object "com/example/latchwork/latchwork/engine/SyncState$Part"), interfaces := #[16, 13], accessFlags := 1041 }

/-- [Ljava/lang/Object; -/
def k32 : Class := { plain "[Ljava/lang/Object;" (some 0) with kind := .array 0 (.object "java/lang/Object"), interfaces := #[16, 13], accessFlags := 1041, mirror := some 5 }

def heap : Heap := #[{ cls := 2, slots := #[.null, .ref 6, .int 0], vm := .statics 2 },
  { cls := 3, slots := #[.ref 10], vm := .statics 3 },
  { cls := 8, slots := #[.long 0, .int 0, .null, .null, .ref 11, .null, .null, .null, .int 0, .int 0], vm := .statics 8 },
  { cls := 22, slots := #[.ref 7], vm := .statics 22 },
  { cls := 23, slots := #[.ref 8, .null], vm := .statics 23 },
  { cls := 25, slots := #[], vm := .mirror 32 },
  { cls := 31, slots := #[], vm := .none },
  { cls := 30, slots := #[], vm := .none },
  { cls := 32, slots := #[], vm := .none },
  { cls := 32, slots := #[], vm := .none },
  { cls := 3, slots := #[.null], vm := .none },
  { cls := 14, slots := #[.ref 9, .int 0], vm := .none }]
def classes : Array Class := #[k0, k1, k2, k3, k4, k5, k6, k7, k8, k9, k10, k11, k12, k13, k14, k15, k16, k17, k18, k19, k20, k21, k22, k23, k24, k25, k26, k27, k28, k29, k30, k31, k32]
def interned : List (Array UInt16 × Addr) := []
def slotsUsed : Nat := 20
def theMethod : MethodId := ⟨1, 1⟩
def args0 : Array Value := #[.int 5, .int 6, .int 7, .int 8]
def aboutOver (below : List Frame) : State where
  vm := { classes := classes, interned := interned.toArray }
  heap := heap
  slotsUsed := slotsUsed
  threads := #[{ frames := .invoking theMethod args0 :: below }]
def below0 : List Frame := [.native { method := ⟨0, 0⟩, args := #[] }]
def about1 : State := aboutOver below0
def p0 : Program := .bare "" "" ""
def e0 : Env := launch0.env 0 0 0
theorem w_frames : about1.frames = Frame.invoking theMethod args0 :: below0 := rfl
set_option maxRecDepth 65536 in
theorem w_args : argsFit about1.vm theMethod args0 = true := by decide +kernel
set_option maxRecDepth 65536 in
theorem w_heap : heapFits about1 = true := by decide +kernel
set_option maxRecDepth 65536 in
theorem w_runnable : about1.curStatus? = some .runnable := by decide +kernel
set_option maxRecDepth 65536 in
theorem w_alone : about1.alone = true := by decide +kernel
set_option maxRecDepth 65536 in
theorem w_named : about1.methodNamed? x = some theMethod := by decide +kernel
set_option maxRecDepth 65536 in
theorem w_hears : about1.hears theMethod below0 = true := by decide +kernel
set_option maxRecDepth 65536 in
theorem w_ripe : about1.ripe theMethod args0 below0 = true := by decide +kernel
theorem w_running : about1.status = .running := rfl
set_option maxRecDepth 65536 in
theorem w_room : about1.hasRoom e0.platform room_1 = true :=
  launch0.hasRoom_least _ room_1 (by decide +kernel) (by decide +kernel) (by decide +kernel) (by decide +kernel) (by decide +kernel) (by decide +kernel)
theorem allAtoms_all (ts : List Jvm.Cond) (a : Array Jvm.Value) (st : Jvm.State) : (allAtoms ts).before a st = ts.all (fun c => c.before a st) := by
  induction ts with
  | nil => rfl
  | cons c t ih =>
    show (Jvm.Cond.and c (allAtoms t)).before a st = _
    rw [Jvm.Cond.before_and, ih, List.all_cons]
def words1 : List Jvm.Cond := Jvm.Cond.code x code maxLocals ret :: tables_1
/-- a 'code' word, met by the world's own term for the bytes: nothing is compared byte by byte -/
theorem code_word {y : MethodName} {bytes : ByteArray} {mx : Nat} {rt : Option FieldType} {a : Array Value} {s : State} {m : MethodId} {meth : Method} {c : Code} (h1 : s.methodNamed? y = some m) (h2 : s.vm.method? m = some meth) (h3 : meth.code = some c) (h4 : c.code = bytes)
    (h5 : (c.maxLocals == mx && c.exceptionTable.isEmpty && decide (c.maxStack ≤ mostOperands) && decide (meth.sig.returnType = rt) && !meth.locks && decide (parseMethodDescriptor y.desc = some meth.sig)) = true) : (Jvm.Cond.code y bytes mx rt).before a s = true := by
  simp only [Bool.and_eq_true, beq_iff_eq, Bool.not_eq_true', decide_eq_true_eq] at h5
  obtain ⟨⟨⟨⟨⟨g1, g2⟩, g3⟩, g4⟩, g5⟩, g6⟩ := h5
  simp [Cond.before, Cond.holds, Cond.value, h1, h2, h3, h4, g1, g2, g3, g4, g5, g6]
def isCode : Jvm.Cond → Bool
  | .code _ _ _ _ => true
  | _ => false
theorem all_split {L : List Jvm.Cond} {P : Jvm.Cond → Bool} (h1 : L.all (fun c => isCode c || P c) = true) (h2 : ∀ c ∈ L.filter isCode, P c = true) : L.all P = true := by
  refine List.all_eq_true.mpr fun c hc => ?_
  have h := List.all_eq_true.mp h1 c hc
  rcases Bool.eq_false_or_eq_true (isCode c) with hi | hi
  · exact h2 c (List.mem_filter.mpr ⟨hc, hi⟩)
  · simpa [hi] using h
set_option maxRecDepth 65536 in
theorem w_c0 : (Jvm.Cond.code x code maxLocals ret).before args0 about1 = true := code_word (m := ⟨1, 1⟩) (meth := k1m1) (c := k1c1) (by decide +kernel) rfl rfl rfl (by decide +kernel)
set_option maxRecDepth 65536 in
theorem w_c1 : (Jvm.Cond.code ({ cls := "com/example/latchwork/latchwork/engine/SyncState", name := "<init>", desc := "(IZ)V" } : Jvm.MethodName) prog_38_method_1_code (3 : Nat) (Option.none : Option Jvm.ClassFile.FieldType)).before args0 about1 = true := code_word (m := ⟨2, 0⟩) (meth := k2m0) (c := k2c0) (by decide +kernel) rfl rfl rfl (by decide +kernel)
set_option maxRecDepth 65536 in
theorem w_c2 : (Jvm.Cond.code ({ cls := "java/lang/Object", name := "<init>", desc := "()V" } : Jvm.MethodName) object_method_1_code (1 : Nat) (Option.none : Option Jvm.ClassFile.FieldType)).before args0 about1 = true := code_word (m := ⟨0, 0⟩) (meth := k0m0) (c := k0c0) (by decide +kernel) rfl rfl rfl (by decide +kernel)
set_option maxRecDepth 65536 in
theorem w_c3 : (Jvm.Cond.code ({ cls := "java/util/List", name := "of", desc := "()Ljava/util/List;" } : Jvm.MethodName) jdk_40_method_36_code (0 : Nat) (Option.some (Jvm.ClassFile.FieldType.object "java/util/List"))).before args0 about1 = true := code_word (m := ⟨7, 3⟩) (meth := k7m3) (c := k7c3) (by decide +kernel) rfl rfl rfl (by decide +kernel)
set_option maxRecDepth 65536 in
theorem w_c4 : (Jvm.Cond.code ({ cls := "com/example/latchwork/latchwork/engine/SyncState", name := "adopt", desc := "(Lcom/example/latchwork/latchwork/engine/SyncState;)V" } : Jvm.MethodName) prog_38_method_21_code (2 : Nat) (Option.none : Option Jvm.ClassFile.FieldType)).before args0 about1 = true := code_word (m := ⟨2, 6⟩) (meth := k2m6) (c := k2c6) (by decide +kernel) rfl rfl rfl (by decide +kernel)
set_option maxRecDepth 65536 in
theorem w_c5 : (Jvm.Cond.code ({ cls := "java/util/ImmutableCollections$ListN", name := "isEmpty", desc := "()Z" } : Jvm.MethodName) jdk_45_method_2_code (1 : Nat) (Option.some Jvm.ClassFile.FieldType.boolean)).before args0 about1 = true := code_word (m := ⟨14, 0⟩) (meth := k14m0) (c := k14c0) (by decide +kernel) rfl rfl rfl (by decide +kernel)
set_option maxRecDepth 65536 in
theorem w_c6 : (Jvm.Cond.code ({ cls := "java/util/ArrayList", name := "<init>", desc := "(I)V" } : Jvm.MethodName) jdk_38_method_1_code (2 : Nat) (Option.none : Option Jvm.ClassFile.FieldType)).before args0 about1 = true := code_word (m := ⟨17, 0⟩) (meth := k17m0) (c := k17c0) (by decide +kernel) rfl rfl rfl (by decide +kernel)
set_option maxRecDepth 65536 in
theorem w_c7 : (Jvm.Cond.code ({ cls := "java/util/AbstractList", name := "<init>", desc := "()V" } : Jvm.MethodName) jdk_39_method_1_code (1 : Nat) (Option.none : Option Jvm.ClassFile.FieldType)).before args0 about1 = true := code_word (m := ⟨15, 0⟩) (meth := k15m0) (c := k15c0) (by decide +kernel) rfl rfl rfl (by decide +kernel)
set_option maxRecDepth 65536 in
theorem w_c8 : (Jvm.Cond.code ({ cls := "java/util/AbstractCollection", name := "<init>", desc := "()V" } : Jvm.MethodName) jdk_22_method_1_code (1 : Nat) (Option.none : Option Jvm.ClassFile.FieldType)).before args0 about1 = true := code_word (m := ⟨9, 0⟩) (meth := k9m0) (c := k9c0) (by decide +kernel) rfl rfl rfl (by decide +kernel)
set_option maxRecDepth 65536 in
theorem w_c9 : (Jvm.Cond.code ({ cls := "java/util/ArrayList", name := "add", desc := "(Ljava/lang/Object;)Z" } : Jvm.MethodName) jdk_38_method_25_code (2 : Nat) (Option.some Jvm.ClassFile.FieldType.boolean)).before args0 about1 = true := code_word (m := ⟨17, 7⟩) (meth := k17m7) (c := k17c7) (by decide +kernel) rfl rfl rfl (by decide +kernel)
set_option maxRecDepth 65536 in
theorem w_c10 : (Jvm.Cond.code ({ cls := "java/util/ArrayList", name := "add", desc := "(Ljava/lang/Object;[Ljava/lang/Object;I)V" } : Jvm.MethodName) jdk_38_method_24_code (4 : Nat) (Option.none : Option Jvm.ClassFile.FieldType)).before args0 about1 = true := code_word (m := ⟨17, 6⟩) (meth := k17m6) (c := k17c6) (by decide +kernel) rfl rfl rfl (by decide +kernel)
set_option maxRecDepth 65536 in
theorem w_c11 : (Jvm.Cond.code ({ cls := "java/util/ArrayList", name := "isEmpty", desc := "()Z" } : Jvm.MethodName) jdk_38_method_9_code (1 : Nat) (Option.some Jvm.ClassFile.FieldType.boolean)).before args0 about1 = true := code_word (m := ⟨17, 5⟩) (meth := k17m5) (c := k17c5) (by decide +kernel) rfl rfl rfl (by decide +kernel)
set_option maxRecDepth 65536 in
theorem w_c12 : (Jvm.Cond.code ({ cls := "java/util/ArrayList", name := "grow", desc := "()[Ljava/lang/Object;" } : Jvm.MethodName) jdk_38_method_7_code (1 : Nat) (Option.some (Jvm.ClassFile.FieldType.array (Jvm.ClassFile.FieldType.object "java/lang/Object")))).before args0 about1 = true := code_word (m := ⟨17, 3⟩) (meth := k17m3) (c := k17c3) (by decide +kernel) rfl rfl rfl (by decide +kernel)
set_option maxRecDepth 65536 in
theorem w_c13 : (Jvm.Cond.code ({ cls := "java/util/ArrayList", name := "grow", desc := "(I)[Ljava/lang/Object;" } : Jvm.MethodName) jdk_38_method_6_code (4 : Nat) (Option.some (Jvm.ClassFile.FieldType.array (Jvm.ClassFile.FieldType.object "java/lang/Object")))).before args0 about1 = true := code_word (m := ⟨17, 2⟩) (meth := k17m2) (c := k17c2) (by decide +kernel) rfl rfl rfl (by decide +kernel)
set_option maxRecDepth 65536 in
theorem w_c14 : (Jvm.Cond.code ({ cls := "jdk/internal/util/ArraysSupport", name := "newLength", desc := "(III)I" } : Jvm.MethodName) jdk_48_method_27_code (4 : Nat) (Option.some Jvm.ClassFile.FieldType.int)).before args0 about1 = true := code_word (m := ⟨18, 1⟩) (meth := k18m1) (c := k18c1) (by decide +kernel) rfl rfl rfl (by decide +kernel)
set_option maxRecDepth 65536 in
theorem w_c15 : (Jvm.Cond.code ({ cls := "java/lang/Math", name := "max", desc := "(II)I" } : Jvm.MethodName) jdk_29_method_65_code (2 : Nat) (Option.some Jvm.ClassFile.FieldType.int)).before args0 about1 = true := code_word (m := ⟨19, 1⟩) (meth := k19m1) (c := k19c1) (by decide +kernel) rfl rfl rfl (by decide +kernel)
set_option maxRecDepth 65536 in
theorem w_c16 : (Jvm.Cond.code ({ cls := "java/util/Arrays", name := "copyOf", desc := "([Ljava/lang/Object;I)[Ljava/lang/Object;" } : Jvm.MethodName) jdk_65_method_119_code (2 : Nat) (Option.some (Jvm.ClassFile.FieldType.array (Jvm.ClassFile.FieldType.object "java/lang/Object")))).before args0 about1 = true := code_word (m := ⟨20, 1⟩) (meth := k20m1) (c := k20c1) (by decide +kernel) rfl rfl rfl (by decide +kernel)
set_option maxRecDepth 65536 in
theorem w_c17 : (Jvm.Cond.code ({ cls := "java/util/Arrays", name := "copyOf", desc := "([Ljava/lang/Object;ILjava/lang/Class;)[Ljava/lang/Object;" } : Jvm.MethodName) jdk_65_method_120_code (4 : Nat) (Option.some (Jvm.ClassFile.FieldType.array (Jvm.ClassFile.FieldType.object "java/lang/Object")))).before args0 about1 = true := code_word (m := ⟨20, 2⟩) (meth := k20m2) (c := k20c2) (by decide +kernel) rfl rfl rfl (by decide +kernel)
set_option maxRecDepth 65536 in
theorem w_c18 : (Jvm.Cond.code ({ cls := "java/lang/Math", name := "min", desc := "(II)I" } : Jvm.MethodName) jdk_29_method_69_code (2 : Nat) (Option.some Jvm.ClassFile.FieldType.int)).before args0 about1 = true := code_word (m := ⟨19, 2⟩) (meth := k19m2) (c := k19c2) (by decide +kernel) rfl rfl rfl (by decide +kernel)
set_option maxRecDepth 65536 in
theorem w_c19 : (Jvm.Cond.code ({ cls := "com/example/latchwork/latchwork/engine/Unit", name := "forSync", desc := "(Lcom/example/latchwork/latchwork/engine/SyncState;)Lcom/example/latchwork/latchwork/engine/Unit;" } : Jvm.MethodName) prog_47_method_3_code (2 : Nat) (Option.some (Jvm.ClassFile.FieldType.object "com/example/latchwork/latchwork/engine/Unit"))).before args0 about1 = true := code_word (m := ⟨23, 1⟩) (meth := k23m1) (c := k23c1) (by decide +kernel) rfl rfl rfl (by decide +kernel)
set_option maxRecDepth 65536 in
theorem w_c20 : (Jvm.Cond.code ({ cls := "com/example/latchwork/latchwork/engine/Unit", name := "<init>", desc := "()V" } : Jvm.MethodName) prog_47_method_1_code (1 : Nat) (Option.none : Option Jvm.ClassFile.FieldType)).before args0 about1 = true := code_word (m := ⟨23, 0⟩) (meth := k23m0) (c := k23c0) (by decide +kernel) rfl rfl rfl (by decide +kernel)
set_option maxRecDepth 65536 in
theorem w_c21 : (Jvm.Cond.code ({ cls := "com/example/latchwork/latchwork/engine/SyncList", name := "<init>", desc := "()V" } : Jvm.MethodName) prog_37_method_1_code (1 : Nat) (Option.none : Option Jvm.ClassFile.FieldType)).before args0 about1 = true := code_word (m := ⟨22, 0⟩) (meth := k22m0) (c := k22c0) (by decide +kernel) rfl rfl rfl (by decide +kernel)
set_option maxRecDepth 65536 in
theorem w_c22 : (Jvm.Cond.code ({ cls := "com/example/latchwork/latchwork/engine/SyncList", name := "addSync", desc := "(Lcom/example/latchwork/latchwork/engine/SyncState;)V" } : Jvm.MethodName) prog_37_method_4_code (2 : Nat) (Option.none : Option Jvm.ClassFile.FieldType)).before args0 about1 = true := code_word (m := ⟨22, 1⟩) (meth := k22m1) (c := k22c1) (by decide +kernel) rfl rfl rfl (by decide +kernel)
set_option maxRecDepth 65536 in
theorem w_c23 : (Jvm.Cond.code ({ cls := "com/example/latchwork/latchwork/engine/SyncState", name := "pending", desc := "()I" } : Jvm.MethodName) prog_38_method_9_code (1 : Nat) (Option.some Jvm.ClassFile.FieldType.int)).before args0 about1 = true := code_word (m := ⟨2, 3⟩) (meth := k2m3) (c := k2c3) (by decide +kernel) rfl rfl rfl (by decide +kernel)
set_option maxRecDepth 65536 in
theorem w_c24 : (Jvm.Cond.code ({ cls := "com/example/latchwork/latchwork/engine/SyncState", name := "isReady", desc := "()Z" } : Jvm.MethodName) prog_38_method_4_code (1 : Nat) (Option.some Jvm.ClassFile.FieldType.boolean)).before args0 about1 = true := code_word (m := ⟨2, 1⟩) (meth := k2m1) (c := k2c1) (by decide +kernel) rfl rfl rfl (by decide +kernel)
set_option maxRecDepth 65536 in
theorem w_c25 : (Jvm.Cond.code ({ cls := "com/example/latchwork/latchwork/engine/SyncState", name := "setUnit", desc := "(Lcom/example/latchwork/latchwork/engine/Unit;)V" } : Jvm.MethodName) prog_38_method_11_code (2 : Nat) (Option.none : Option Jvm.ClassFile.FieldType)).before args0 about1 = true := code_word (m := ⟨2, 4⟩) (meth := k2m4) (c := k2c4) (by decide +kernel) rfl rfl rfl (by decide +kernel)
set_option maxRecDepth 65536 in
theorem w_c26 : (Jvm.Cond.code ({ cls := "com/example/latchwork/latchwork/engine/SyncState", name := "setReady", desc := "()V" } : Jvm.MethodName) prog_38_method_22_code (1 : Nat) (Option.none : Option Jvm.ClassFile.FieldType)).before args0 about1 = true := code_word (m := ⟨2, 7⟩) (meth := k2m7) (c := k2c7) (by decide +kernel) rfl rfl rfl (by decide +kernel)
set_option maxRecDepth 65536 in
theorem w_c27 : (Jvm.Cond.code ({ cls := "com/example/latchwork/latchwork/engine/Unit", name := "countReady", desc := "()V" } : Jvm.MethodName) prog_47_method_21_code (1 : Nat) (Option.none : Option Jvm.ClassFile.FieldType)).before args0 about1 = true := code_word (m := ⟨23, 2⟩) (meth := k23m2) (c := k23c2) (by decide +kernel) rfl rfl rfl (by decide +kernel)
set_option maxRecDepth 65536 in
theorem w_c28 : (Jvm.Cond.code ({ cls := "com/example/latchwork/latchwork/engine/SyncState", name := "isWhole", desc := "()Z" } : Jvm.MethodName) prog_38_method_25_code (1 : Nat) (Option.some Jvm.ClassFile.FieldType.boolean)).before args0 about1 = true := code_word (m := ⟨2, 8⟩) (meth := k2m8) (c := k2c8) (by decide +kernel) rfl rfl rfl (by decide +kernel)
set_option maxRecDepth 65536 in
theorem w_c29 : (Jvm.Cond.code ({ cls := "java/util/ArrayList", name := "size", desc := "()I" } : Jvm.MethodName) jdk_38_method_8_code (1 : Nat) (Option.some Jvm.ClassFile.FieldType.int)).before args0 about1 = true := code_word (m := ⟨17, 4⟩) (meth := k17m4) (c := k17c4) (by decide +kernel) rfl rfl rfl (by decide +kernel)
set_option maxRecDepth 65536 in
theorem w_c30 : (Jvm.Cond.code ({ cls := "com/example/latchwork/latchwork/engine/SyncState", name := "isEnded", desc := "()Z" } : Jvm.MethodName) prog_38_method_5_code (1 : Nat) (Option.some Jvm.ClassFile.FieldType.boolean)).before args0 about1 = true := code_word (m := ⟨2, 2⟩) (meth := k2m2) (c := k2c2) (by decide +kernel) rfl rfl rfl (by decide +kernel)
set_option maxRecDepth 65536 in
theorem w_c31 : (Jvm.Cond.code ({ cls := "com/example/latchwork/latchwork/engine/SyncState", name := "endAsChild", desc := "()V" } : Jvm.MethodName) prog_38_method_26_code (1 : Nat) (Option.none : Option Jvm.ClassFile.FieldType)).before args0 about1 = true := code_word (m := ⟨2, 9⟩) (meth := k2m9) (c := k2c9) (by decide +kernel) rfl rfl rfl (by decide +kernel)
set_option maxRecDepth 65536 in
theorem w_c32 : (Jvm.Cond.code ({ cls := "com/example/latchwork/latchwork/engine/SyncState", name := "parent", desc := "()Lcom/example/latchwork/latchwork/engine/SyncState;" } : Jvm.MethodName) prog_38_method_13_code (1 : Nat) (Option.some (Jvm.ClassFile.FieldType.object "com/example/latchwork/latchwork/engine/SyncState"))).before args0 about1 = true := code_word (m := ⟨2, 5⟩) (meth := k2m5) (c := k2c5) (by decide +kernel) rfl rfl rfl (by decide +kernel)
def codes1 : List Jvm.Cond := [Jvm.Cond.code x code maxLocals ret, Jvm.Cond.code ({ cls := "com/example/latchwork/latchwork/engine/SyncState", name := "<init>", desc := "(IZ)V" } : Jvm.MethodName) prog_38_method_1_code (3 : Nat) (Option.none : Option Jvm.ClassFile.FieldType), Jvm.Cond.code ({ cls := "java/lang/Object", name := "<init>", desc := "()V" } : Jvm.MethodName) object_method_1_code (1 : Nat) (Option.none : Option Jvm.ClassFile.FieldType), Jvm.Cond.code ({ cls := "java/util/List", name := "of", desc := "()Ljava/util/List;" } : Jvm.MethodName) jdk_40_method_36_code (0 : Nat) (Option.some (Jvm.ClassFile.FieldType.object "java/util/List")), Jvm.Cond.code ({ cls := "com/example/latchwork/latchwork/engine/SyncState", name := "adopt", desc := "(Lcom/example/latchwork/latchwork/engine/SyncState;)V" } : Jvm.MethodName) prog_38_method_21_code (2 : Nat) (Option.none : Option Jvm.ClassFile.FieldType), Jvm.Cond.code ({ cls := "java/util/ImmutableCollections$ListN", name := "isEmpty", desc := "()Z" } : Jvm.MethodName) jdk_45_method_2_code (1 : Nat) (Option.some Jvm.ClassFile.FieldType.boolean), Jvm.Cond.code ({ cls := "java/util/ArrayList", name := "<init>", desc := "(I)V" } : Jvm.MethodName) jdk_38_method_1_code (2 : Nat) (Option.none : Option Jvm.ClassFile.FieldType), Jvm.Cond.code ({ cls := "java/util/AbstractList", name := "<init>", desc := "()V" } : Jvm.MethodName) jdk_39_method_1_code (1 : Nat) (Option.none : Option Jvm.ClassFile.FieldType), Jvm.Cond.code ({ cls := "java/util/AbstractCollection", name := "<init>", desc := "()V" } : Jvm.MethodName) jdk_22_method_1_code (1 : Nat) (Option.none : Option Jvm.ClassFile.FieldType), Jvm.Cond.code ({ cls := "java/util/ArrayList", name := "add", desc := "(Ljava/lang/Object;)Z" } : Jvm.MethodName) jdk_38_method_25_code (2 : Nat) (Option.some Jvm.ClassFile.FieldType.boolean), Jvm.Cond.code ({ cls := "java/util/ArrayList", name := "add", desc := "(Ljava/lang/Object;[Ljava/lang/Object;I)V" } : Jvm.MethodName) jdk_38_method_24_code (4 : Nat) (Option.none : Option Jvm.ClassFile.FieldType), Jvm.Cond.code ({ cls := "java/util/ArrayList", name := "isEmpty", desc := "()Z" } : Jvm.MethodName) jdk_38_method_9_code (1 : Nat) (Option.some Jvm.ClassFile.FieldType.boolean), Jvm.Cond.code ({ cls := "java/util/ArrayList", name := "grow", desc := "()[Ljava/lang/Object;" } : Jvm.MethodName) jdk_38_method_7_code (1 : Nat) (Option.some (Jvm.ClassFile.FieldType.array (Jvm.ClassFile.FieldType.object "java/lang/Object"))), Jvm.Cond.code ({ cls := "java/util/ArrayList", name := "grow", desc := "(I)[Ljava/lang/Object;" } : Jvm.MethodName) jdk_38_method_6_code (4 : Nat) (Option.some (Jvm.ClassFile.FieldType.array (Jvm.ClassFile.FieldType.object "java/lang/Object"))), Jvm.Cond.code ({ cls := "jdk/internal/util/ArraysSupport", name := "newLength", desc := "(III)I" } : Jvm.MethodName) jdk_48_method_27_code (4 : Nat) (Option.some Jvm.ClassFile.FieldType.int), Jvm.Cond.code ({ cls := "java/lang/Math", name := "max", desc := "(II)I" } : Jvm.MethodName) jdk_29_method_65_code (2 : Nat) (Option.some Jvm.ClassFile.FieldType.int), Jvm.Cond.code ({ cls := "java/util/Arrays", name := "copyOf", desc := "([Ljava/lang/Object;I)[Ljava/lang/Object;" } : Jvm.MethodName) jdk_65_method_119_code (2 : Nat) (Option.some (Jvm.ClassFile.FieldType.array (Jvm.ClassFile.FieldType.object "java/lang/Object"))), Jvm.Cond.code ({ cls := "java/util/Arrays", name := "copyOf", desc := "([Ljava/lang/Object;ILjava/lang/Class;)[Ljava/lang/Object;" } : Jvm.MethodName) jdk_65_method_120_code (4 : Nat) (Option.some (Jvm.ClassFile.FieldType.array (Jvm.ClassFile.FieldType.object "java/lang/Object"))), Jvm.Cond.code ({ cls := "java/lang/Math", name := "min", desc := "(II)I" } : Jvm.MethodName) jdk_29_method_69_code (2 : Nat) (Option.some Jvm.ClassFile.FieldType.int), Jvm.Cond.code ({ cls := "com/example/latchwork/latchwork/engine/Unit", name := "forSync", desc := "(Lcom/example/latchwork/latchwork/engine/SyncState;)Lcom/example/latchwork/latchwork/engine/Unit;" } : Jvm.MethodName) prog_47_method_3_code (2 : Nat) (Option.some (Jvm.ClassFile.FieldType.object "com/example/latchwork/latchwork/engine/Unit")), Jvm.Cond.code ({ cls := "com/example/latchwork/latchwork/engine/Unit", name := "<init>", desc := "()V" } : Jvm.MethodName) prog_47_method_1_code (1 : Nat) (Option.none : Option Jvm.ClassFile.FieldType), Jvm.Cond.code ({ cls := "com/example/latchwork/latchwork/engine/SyncList", name := "<init>", desc := "()V" } : Jvm.MethodName) prog_37_method_1_code (1 : Nat) (Option.none : Option Jvm.ClassFile.FieldType), Jvm.Cond.code ({ cls := "com/example/latchwork/latchwork/engine/SyncList", name := "addSync", desc := "(Lcom/example/latchwork/latchwork/engine/SyncState;)V" } : Jvm.MethodName) prog_37_method_4_code (2 : Nat) (Option.none : Option Jvm.ClassFile.FieldType), Jvm.Cond.code ({ cls := "com/example/latchwork/latchwork/engine/SyncState", name := "pending", desc := "()I" } : Jvm.MethodName) prog_38_method_9_code (1 : Nat) (Option.some Jvm.ClassFile.FieldType.int), Jvm.Cond.code ({ cls := "com/example/latchwork/latchwork/engine/SyncState", name := "isReady", desc := "()Z" } : Jvm.MethodName) prog_38_method_4_code (1 : Nat) (Option.some Jvm.ClassFile.FieldType.boolean), Jvm.Cond.code ({ cls := "com/example/latchwork/latchwork/engine/SyncState", name := "setUnit", desc := "(Lcom/example/latchwork/latchwork/engine/Unit;)V" } : Jvm.MethodName) prog_38_method_11_code (2 : Nat) (Option.none : Option Jvm.ClassFile.FieldType), Jvm.Cond.code ({ cls := "com/example/latchwork/latchwork/engine/SyncState", name := "setReady", desc := "()V" } : Jvm.MethodName) prog_38_method_22_code (1 : Nat) (Option.none : Option Jvm.ClassFile.FieldType), Jvm.Cond.code ({ cls := "com/example/latchwork/latchwork/engine/Unit", name := "countReady", desc := "()V" } : Jvm.MethodName) prog_47_method_21_code (1 : Nat) (Option.none : Option Jvm.ClassFile.FieldType), Jvm.Cond.code ({ cls := "com/example/latchwork/latchwork/engine/SyncState", name := "isWhole", desc := "()Z" } : Jvm.MethodName) prog_38_method_25_code (1 : Nat) (Option.some Jvm.ClassFile.FieldType.boolean), Jvm.Cond.code ({ cls := "java/util/ArrayList", name := "size", desc := "()I" } : Jvm.MethodName) jdk_38_method_8_code (1 : Nat) (Option.some Jvm.ClassFile.FieldType.int), Jvm.Cond.code ({ cls := "com/example/latchwork/latchwork/engine/SyncState", name := "isEnded", desc := "()Z" } : Jvm.MethodName) prog_38_method_5_code (1 : Nat) (Option.some Jvm.ClassFile.FieldType.boolean), Jvm.Cond.code ({ cls := "com/example/latchwork/latchwork/engine/SyncState", name := "endAsChild", desc := "()V" } : Jvm.MethodName) prog_38_method_26_code (1 : Nat) (Option.none : Option Jvm.ClassFile.FieldType), Jvm.Cond.code ({ cls := "com/example/latchwork/latchwork/engine/SyncState", name := "parent", desc := "()Lcom/example/latchwork/latchwork/engine/SyncState;" } : Jvm.MethodName) prog_38_method_13_code (1 : Nat) (Option.some (Jvm.ClassFile.FieldType.object "com/example/latchwork/latchwork/engine/SyncState"))]
set_option maxRecDepth 65536 in
theorem codes_eq : words1.filter isCode = codes1 := rfl
theorem w_codes : ∀ c ∈ words1.filter isCode, c.before args0 about1 = true := by
  rw [codes_eq]
  intro c hc
  simp only [codes1, List.mem_cons, List.not_mem_nil, or_false] at hc
  rcases hc with rfl | rfl | rfl | rfl | rfl | rfl | rfl | rfl | rfl | rfl | rfl | rfl | rfl | rfl | rfl | rfl | rfl | rfl | rfl | rfl | rfl | rfl | rfl | rfl | rfl | rfl | rfl | rfl | rfl | rfl | rfl | rfl | rfl
  · exact w_c0
  · exact w_c1
  · exact w_c2
  · exact w_c3
  · exact w_c4
  · exact w_c5
  · exact w_c6
  · exact w_c7
  · exact w_c8
  · exact w_c9
  · exact w_c10
  · exact w_c11
  · exact w_c12
  · exact w_c13
  · exact w_c14
  · exact w_c15
  · exact w_c16
  · exact w_c17
  · exact w_c18
  · exact w_c19
  · exact w_c20
  · exact w_c21
  · exact w_c22
  · exact w_c23
  · exact w_c24
  · exact w_c25
  · exact w_c26
  · exact w_c27
  · exact w_c28
  · exact w_c29
  · exact w_c30
  · exact w_c31
  · exact w_c32
set_option maxRecDepth 65536 in
theorem w_t1 : (words1.take 24).all (fun c => isCode c || c.before args0 about1) = true := by decide +kernel
set_option maxRecDepth 65536 in
theorem w_t2 : ((words1.drop 24).take 24).all (fun c => isCode c || c.before args0 about1) = true := by decide +kernel
set_option maxRecDepth 65536 in
theorem w_t3 : (((words1.drop 24).drop 24).take 24).all (fun c => isCode c || c.before args0 about1) = true := by decide +kernel
set_option maxRecDepth 65536 in
theorem w_t4 : ((((words1.drop 24).drop 24).drop 24).take 24).all (fun c => isCode c || c.before args0 about1) = true := by decide +kernel
set_option maxRecDepth 65536 in
theorem w_t5 : (((((words1.drop 24).drop 24).drop 24).drop 24).take 24).all (fun c => isCode c || c.before args0 about1) = true := by decide +kernel
set_option maxRecDepth 65536 in
theorem w_t6 : ((((((words1.drop 24).drop 24).drop 24).drop 24).drop 24).take 24).all (fun c => isCode c || c.before args0 about1) = true := by decide +kernel
set_option maxRecDepth 65536 in
theorem w_t7 : (((((((words1.drop 24).drop 24).drop 24).drop 24).drop 24).drop 24).take 24).all (fun c => isCode c || c.before args0 about1) = true := by decide +kernel
set_option maxRecDepth 65536 in
theorem w_t8 : ((((((((words1.drop 24).drop 24).drop 24).drop 24).drop 24).drop 24).drop 24).take 24).all (fun c => isCode c || c.before args0 about1) = true := by decide +kernel
set_option maxRecDepth 65536 in
theorem w_t9 : (((((((((words1.drop 24).drop 24).drop 24).drop 24).drop 24).drop 24).drop 24).drop 24).take 24).all (fun c => isCode c || c.before args0 about1) = true := by decide +kernel
set_option maxRecDepth 65536 in
theorem w_t10 : ((((((((((words1.drop 24).drop 24).drop 24).drop 24).drop 24).drop 24).drop 24).drop 24).drop 24).take 24).all (fun c => isCode c || c.before args0 about1) = true := by decide +kernel
set_option maxRecDepth 65536 in
theorem w_t11 : ((((((((((words1.drop 24).drop 24).drop 24).drop 24).drop 24).drop 24).drop 24).drop 24).drop 24).drop 24).all (fun c => isCode c || c.before args0 about1) = true := by decide +kernel
theorem w_tables : (allAtoms (Jvm.Cond.code x code maxLocals ret :: tables_1)).before args0 about1 = true := by
  rw [allAtoms_all]
  show words1.all (fun c => c.before args0 about1) = true
  refine all_split ?_ w_codes
  rw [← List.take_append_drop 24 words1, List.all_append, w_t1, ← List.take_append_drop 24 (words1.drop 24), List.all_append, w_t2, ← List.take_append_drop 24 ((words1.drop 24).drop 24), List.all_append, w_t3, ← List.take_append_drop 24 (((words1.drop 24).drop 24).drop 24), List.all_append, w_t4, ← List.take_append_drop 24 ((((words1.drop 24).drop 24).drop 24).drop 24), List.all_append, w_t5, ← List.take_append_drop 24 (((((words1.drop 24).drop 24).drop 24).drop 24).drop 24), List.all_append, w_t6, ← List.take_append_drop 24 ((((((words1.drop 24).drop 24).drop 24).drop 24).drop 24).drop 24), List.all_append, w_t7, ← List.take_append_drop 24 (((((((words1.drop 24).drop 24).drop 24).drop 24).drop 24).drop 24).drop 24), List.all_append, w_t8, ← List.take_append_drop 24 ((((((((words1.drop 24).drop 24).drop 24).drop 24).drop 24).drop 24).drop 24).drop 24), List.all_append, w_t9, ← List.take_append_drop 24 (((((((((words1.drop 24).drop 24).drop 24).drop 24).drop 24).drop 24).drop 24).drop 24).drop 24), List.all_append, w_t10, w_t11]
  rfl
set_option maxRecDepth 65536 in
theorem w_rest : rest_1_c.before args0 about1 = true := by decide +kernel
set_option maxRecDepth 65536 in
theorem w_case : (Jvm.Cond.and given_1 narrow_1).before args0 about1 = true := by decide +kernel
theorem w_applies : (headSpec (Jvm.Cond.code x code maxLocals ret :: tables_1) room_1).applies x e0.platform about1 = true :=
  (Spec.applies_iff w_frames).mpr ⟨w_running, w_runnable, w_alone, w_named, w_hears, w_ripe, w_room, w_tables⟩
theorem atStart : AtStart classFile x code maxLocals ret World_1 tables_1 room_1 Calls_1 rest_1 Pre_1 launch0 p0 e0 about1 theMethod args0 below0 :=
  ⟨lists_1, trivial, launch0.admits_env _ _ _, launch0.least_env, fairChoices_fair.cas, fairChoices_fair.clock, w_frames, w_args, w_heap, w_applies, ⟨⟨32, k32, 5, by decide +kernel, rfl, rfl, _, rfl, rfl⟩, trivial⟩, w_rest, w_case⟩
end start1
theorem witness_1 : WitnessClaimed_1 := ⟨start1.p0, start1.e0, start1.about1, start1.theMethod, start1.args0, start1.below0, start1.atStart⟩
end Jvm.Pilot.@@N@@
