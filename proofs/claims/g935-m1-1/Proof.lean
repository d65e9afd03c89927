import JvmDerived
import JvmDerived.Pilot.@@N@@Statement
import JvmDerived.Pilot.@@N@@Code
set_option linter.unusedVariables false
set_option linter.unusedSimpArgs false
namespace Jvm.Own
open Sem ClassFile Op Lib Jvm.Stand Jvm.Free Jvm.LawKit Jvm.RoadKit
/-- what of a walk never changes: program, environment, the invocation's state, method, arguments, frames below, method, code -/
abbrev Ctx : Type := Program × Env × State × MethodId × Array Value × List Frame × Method × Code × (Outcome → State → List Loc → Nat → Nat → Prop)
abbrev Ctx.p (K : Ctx) : Program := K.1
abbrev Ctx.e (K : Ctx) : Env := K.2.1
abbrev Ctx.s (K : Ctx) : State := K.2.2.1
abbrev Ctx.m (K : Ctx) : MethodId := K.2.2.2.1
abbrev Ctx.args (K : Ctx) : Array Value := K.2.2.2.2.1
abbrev Ctx.below (K : Ctx) : List Frame := K.2.2.2.2.2.1
abbrev Ctx.meth (K : Ctx) : Method := K.2.2.2.2.2.2.1
abbrev Ctx.c (K : Ctx) : Code := K.2.2.2.2.2.2.2.1
abbrev Ctx.F (K : Ctx) : Outcome → State → List Loc → Nat → Nat → Prop := K.2.2.2.2.2.2.2.2
/-- the run from S comes to the end of the invocation, in G -/
def Ends (K : Ctx) (S : State) (G : Outcome → State → Prop) : Prop := ∃ s₂ o, Steps K.p.tables K.e K.below S s₂ ∧ s₂.status = .running ∧ Ended s₂ K.below o ∧ G o s₂
theorem Ends.step {K : Ctx} {S S' : State} {G : Outcome → State → Prop} (f : ∀ t, Steps K.p.tables K.e K.below S' t → Steps K.p.tables K.e K.below S t) (h : Ends K S' G) : Ends K S G := by
  obtain ⟨a, b, c, d⟩ := h
  exact ⟨a, b, f _ c, d⟩
/-- from every state that stands in this walk with the heap h, cc cells and ss slots made, the frame (pc, ls, st) runs to a return in Q -/
def W (l : Launch) (Z : State) (R : Room) (K : Ctx) (Q : Option Value → Heap → Prop) (h : Heap) (cc ss pc : Nat) (ls : Array Slot) (st : List Value) : Prop :=
  ∀ (T : State) (L : List Loc), Stand K.p l K.e R K.s K.m K.args K.below K.meth K.c T L cc ss → Fr Z.heap.size L → T.heap = h →
    Ends K (T.setTop (mkF K.m pc ls st)) (fun o U => ∃ v L, o = .returned v ∧ (Q v U.heap ∧ Fr Z.heap.size L) ∧ K.F o U L R.cells R.slots)
def Ok (Z : State) (K : Ctx) (y : MethodName) (code : ByteArray) (maxL : Nat) (ret : Option FieldType) : Prop :=
  K.p.tables.exec = Jvm.exec ∧ Z.Warmed39 K.s.vm ∧ K.c.code = code ∧ K.c.maxLocals = maxL ∧ K.s.vm.findClass y.cls = some K.m.cls ∧ K.meth.sig.returnType = ret ∧ K.meth.name = y.name ∧ K.meth.locks = false ∧ ∀ o U L c n, FrameEnd K.s o U L c n → K.F o U L c n
/-- a callee's contract: at the heap h0, with the arguments as, it returns in Q -/
def Con (l : Launch) (Z : State) (y : MethodName) (code : ByteArray) (maxL : Nat) (ret : Option FieldType) (rm : Room) (as : Array Value) (h0 : Heap) (Q : Option Value → Heap → Prop) : Prop :=
  ∀ ws : List Jvm.Cond, MetFree l y (head1 (Jvm.Cond.code y code maxL ret :: ws) rm) (fun a U => a = as ∧ Z.Warmed39 U.vm ∧ U.heap = h0) (fun _ _ _ _ _ => True) (fun _ U o U' => ∃ v L, o = .returned v ∧ (Q v U'.heap ∧ Fr Z.heap.size L) ∧ FrameEnd U o U' L rm.cells rm.slots)
def cdT : ClassFile.Cond → Int32 → Int32 → Prop
  | .eq, x, y => x = y
  | .ne, x, y => ¬ (x = y)
  | .lt, x, y => x < y
  | .ge, x, y => ¬ (x < y)
  | .gt, x, y => y < x
  | .le, x, y => ¬ (y < x)
def cdF : ClassFile.Cond → Int32 → Int32 → Prop
  | .eq, x, y => ¬ (x = y)
  | .ne, x, y => x = y
  | .lt, x, y => ¬ (x < y)
  | .ge, x, y => x < y
  | .gt, x, y => ¬ (y < x)
  | .le, x, y => y < x
theorem cd_t {cd : ClassFile.Cond} {x y : Int32} (h : cdT cd x y) : if_icmp.holds cd x y = true := by
  cases cd
  · exact (teq h).1
  · exact (feq h).2
  · exact (tlt h).1
  · exact (flt h).2.1
  · exact (tlt h).2.2.1
  · exact (flt h).2.2.2
theorem cd_f {cd : ClassFile.Cond} {x y : Int32} (h : cdF cd x y) : if_icmp.holds cd x y = false := by
  cases cd
  · exact (feq h).1
  · exact (teq h).2
  · exact (flt h).1
  · exact (tlt h).2.1
  · exact (flt h).2.2.1
  · exact (tlt h).2.2.2
theorem cd_or (cd : ClassFile.Cond) (x y : Int32) : cdT cd x y ∨ cdF cd x y := by
  cases cd
  · exact Classical.em _
  · exact (Classical.em _).symm
  · exact Classical.em _
  · exact (Classical.em _).symm
  · exact Classical.em _
  · exact (Classical.em _).symm
section Walk
variable {l : Launch} {Z : State} {R : Room} {K : Ctx} {Q : Option Value → Heap → Prop} {h : Heap} {cc ss pc : Nat} {ls : Array Slot} {st : List Value} {y : MethodName} {code : ByteArray} {maxL : Nat} {ret : Option FieldType} {a0 : Array Value} {ts : List Jvm.Cond}
theorem Con.of {rm : Room} {as : Array Value} {h0 : Heap} (hp : plainFor y = true) (ls : Array Slot) (hf : ∀ m, entryFrame m as maxL = mkF m 0 ls []) (hW : ∀ K : Ctx, Ok Z K y code maxL ret → W l Z rm K Q h0 0 0 0 ls []) : Con l Z y code maxL ret rm as h0 Q := by
  intro ws
  refine MetFree.of_bodySF hp hisR ?_
  intro p e s m args below meth c s₁ Bd hml0 hP hK
  obtain ⟨rfl, hZ, hh⟩ := hP
  have e0 : s₁.heap = h0 := by rw [← hh, Bd.state]; rfl
  have X0 : Stand p l e rm s m args below meth c s₁ [] 0 0 := Stand.of_body Bd
  rw [hf]
  exact hW (p, e, s, m, args, below, meth, c, FrameEnd s) ⟨Bd.exec, hZ, Bd.bytes, hml0, findClass_of_methodNamed Bd.named, Bd.returns, (name_of_methodNamed Bd.named Bd.method).1, Bd.notSynchronized, fun _ _ _ _ _ q => q⟩ s₁ [] X0 (Fr.nil _) e0
theorem W.more {cc' ss' : Nat} (hc : cc ≤ cc') (hs : ss ≤ ss') (H : W l Z R K Q h cc' ss' pc ls st) : W l Z R K Q h cc ss pc ls st := fun T L X N e => H T L (X.more hc hs) N e

theorem W.iload (ok : Ok Z K y code maxL ret) {k : Nat} {v : Int32} (hd : decode code pc = .ok (.iload k, 2)) (pc' : Nat) (hl : ls[k]? = some (.val (.int v))) (H : W l Z R K Q h cc ss pc' ls (.int v :: st)) (hp : pc + 2 = pc' := by rfl) : W l Z R K Q h cc ss pc ls (st) := by
  subst hp
  exact fun T L X N e => Ends.step (fun t k => XS.iload X.here ok.1 rfl (hb ok.2.2.1 hd) hl k) (H T L X N e)
theorem W.lload (ok : Ok Z K y code maxL ret) {k : Nat} {v : Int64} (hd : decode code pc = .ok (.lload k, 2)) (pc' : Nat) (hl : ls[k]? = some (.val (.long v))) (H : W l Z R K Q h cc ss pc' ls (.long v :: st)) (hp : pc + 2 = pc' := by rfl) : W l Z R K Q h cc ss pc ls (st) := by
  subst hp
  exact fun T L X N e => Ends.step (fun t k => XS.lload X.here ok.1 rfl (hb ok.2.2.1 hd) hl k) (H T L X N e)
theorem W.aload (ok : Ok Z K y code maxL ret) {k : Nat} {v : Value} (hd : decode code pc = .ok (.aload k, 2)) (pc' : Nat) (hl : ls[k]? = some (.val v)) (hv : v.isRef = true) (H : W l Z R K Q h cc ss pc' ls (v :: st)) (hp : pc + 2 = pc' := by rfl) : W l Z R K Q h cc ss pc ls (st) := by
  subst hp
  exact fun T L X N e => Ends.step (fun t k => XS.aload X.here ok.1 rfl (hb ok.2.2.1 hd) hl hv k) (H T L X N e)
theorem W.istore (ok : Ok Z K y code maxL ret) {k : Nat} {v : Int32} (hd : decode code pc = .ok (.istore k, 2)) (pc' : Nat) (ls' : Array Slot) (hl : storeLocals ls k (.int v) = some ls') (H : W l Z R K Q h cc ss pc' ls' (st)) (hp : pc + 2 = pc' := by rfl) : W l Z R K Q h cc ss pc ls (.int v :: st) := by
  subst hp
  exact fun T L X N e => Ends.step (fun t k => XS.istore X.here ok.1 rfl (hb ok.2.2.1 hd) rfl hl k) (H T L X N e)
theorem W.lstore (ok : Ok Z K y code maxL ret) {k : Nat} {v : Int64} (hd : decode code pc = .ok (.lstore k, 2)) (pc' : Nat) (ls' : Array Slot) (hl : storeLocals ls k (.long v) = some ls') (H : W l Z R K Q h cc ss pc' ls' (st)) (hp : pc + 2 = pc' := by rfl) : W l Z R K Q h cc ss pc ls (.long v :: st) := by
  subst hp
  exact fun T L X N e => Ends.step (fun t k => XS.lstore X.here ok.1 rfl (hb ok.2.2.1 hd) rfl hl k) (H T L X N e)
theorem W.astore (ok : Ok Z K y code maxL ret) {k : Nat} {v : Value} (hd : decode code pc = .ok (.astore k, 2)) (pc' : Nat) (ls' : Array Slot) (hv : v.isRef = true) (hl : storeLocals ls k v = some ls') (H : W l Z R K Q h cc ss pc' ls' (st)) (hp : pc + 2 = pc' := by rfl) : W l Z R K Q h cc ss pc ls (v :: st) := by
  subst hp
  exact fun T L X N e => Ends.step (fun t k => XS.astore X.here ok.1 rfl (hb ok.2.2.1 hd) rfl hv hl k) (H T L X N e)
theorem W.iloadN (ok : Ok Z K y code maxL ret) {k : Fin 4} {v : Int32} (hd : decode code pc = .ok (.iload_n k, 1)) (pc' : Nat) (hl : ls[k.val]? = some (.val (.int v))) (H : W l Z R K Q h cc ss pc' ls (.int v :: st)) (hp : pc + 1 = pc' := by rfl) : W l Z R K Q h cc ss pc ls (st) := by
  subst hp
  exact fun T L X N e => Ends.step (fun t k => XS.iloadN X.here ok.1 rfl (hb ok.2.2.1 hd) hl k) (H T L X N e)
theorem W.lloadN (ok : Ok Z K y code maxL ret) {k : Fin 4} {v : Int64} (hd : decode code pc = .ok (.lload_n k, 1)) (pc' : Nat) (hl : ls[k.val]? = some (.val (.long v))) (H : W l Z R K Q h cc ss pc' ls (.long v :: st)) (hp : pc + 1 = pc' := by rfl) : W l Z R K Q h cc ss pc ls (st) := by
  subst hp
  exact fun T L X N e => Ends.step (fun t k => XS.lloadN X.here ok.1 rfl (hb ok.2.2.1 hd) hl k) (H T L X N e)
theorem W.aloadN (ok : Ok Z K y code maxL ret) {k : Fin 4} {v : Value} (hd : decode code pc = .ok (.aload_n k, 1)) (pc' : Nat) (hl : ls[k.val]? = some (.val v)) (hv : v.isRef = true) (H : W l Z R K Q h cc ss pc' ls (v :: st)) (hp : pc + 1 = pc' := by rfl) : W l Z R K Q h cc ss pc ls (st) := by
  subst hp
  exact fun T L X N e => Ends.step (fun t k => XS.aloadN X.here ok.1 rfl (hb ok.2.2.1 hd) hl hv k) (H T L X N e)
theorem W.istoreN (ok : Ok Z K y code maxL ret) {k : Fin 4} {v : Int32} (hd : decode code pc = .ok (.istore_n k, 1)) (pc' : Nat) (ls' : Array Slot) (hl : storeLocals ls k.val (.int v) = some ls') (H : W l Z R K Q h cc ss pc' ls' (st)) (hp : pc + 1 = pc' := by rfl) : W l Z R K Q h cc ss pc ls (.int v :: st) := by
  subst hp
  exact fun T L X N e => Ends.step (fun t k => XS.istoreN X.here ok.1 rfl (hb ok.2.2.1 hd) rfl hl k) (H T L X N e)
theorem W.lstoreN (ok : Ok Z K y code maxL ret) {k : Fin 4} {v : Int64} (hd : decode code pc = .ok (.lstore_n k, 1)) (pc' : Nat) (ls' : Array Slot) (hl : storeLocals ls k.val (.long v) = some ls') (H : W l Z R K Q h cc ss pc' ls' (st)) (hp : pc + 1 = pc' := by rfl) : W l Z R K Q h cc ss pc ls (.long v :: st) := by
  subst hp
  exact fun T L X N e => Ends.step (fun t k => XS.lstoreN X.here ok.1 rfl (hb ok.2.2.1 hd) rfl hl k) (H T L X N e)
theorem W.astoreN (ok : Ok Z K y code maxL ret) {k : Fin 4} {v : Value} (hd : decode code pc = .ok (.astore_n k, 1)) (pc' : Nat) (ls' : Array Slot) (hv : v.isRef = true) (hl : storeLocals ls k.val v = some ls') (H : W l Z R K Q h cc ss pc' ls' (st)) (hp : pc + 1 = pc' := by rfl) : W l Z R K Q h cc ss pc ls (v :: st) := by
  subst hp
  exact fun T L X N e => Ends.step (fun t k => XS.astoreN X.here ok.1 rfl (hb ok.2.2.1 hd) rfl hv hl k) (H T L X N e)
theorem W.iconst (ok : Ok Z K y code maxL ret) {i : Int} (hd : decode code pc = .ok (.iconst i, 1)) (pc' : Nat) (v : Int32) (hv : Int32.ofInt i = v) (H : W l Z R K Q h cc ss pc' ls (.int v :: st)) (hp : pc + 1 = pc' := by rfl) : W l Z R K Q h cc ss pc ls (st) := by
  subst hp
  subst hv
  exact fun T L X N e => Ends.step (fun t k => XS.iconst X.here ok.1 rfl (hb ok.2.2.1 hd)  k) (H T L X N e)
theorem W.bipush (ok : Ok Z K y code maxL ret) {i : Int} (hd : decode code pc = .ok (.bipush i, 2)) (pc' : Nat) (v : Int32) (hv : (Int8.ofInt i).toInt32 = v) (H : W l Z R K Q h cc ss pc' ls (.int v :: st)) (hp : pc + 2 = pc' := by rfl) : W l Z R K Q h cc ss pc ls (st) := by
  subst hp
  subst hv
  exact fun T L X N e => Ends.step (fun t k => XS.bipush X.here ok.1 rfl (hb ok.2.2.1 hd)  k) (H T L X N e)
theorem W.sipush (ok : Ok Z K y code maxL ret) {i : Int} (hd : decode code pc = .ok (.sipush i, 3)) (pc' : Nat) (v : Int32) (hv : (Int16.ofInt i).toInt32 = v) (H : W l Z R K Q h cc ss pc' ls (.int v :: st)) (hp : pc + 3 = pc' := by rfl) : W l Z R K Q h cc ss pc ls (st) := by
  subst hp
  subst hv
  exact fun T L X N e => Ends.step (fun t k => XS.sipush X.here ok.1 rfl (hb ok.2.2.1 hd)  k) (H T L X N e)
theorem W.lconst (ok : Ok Z K y code maxL ret) {i : Fin 2} (hd : decode code pc = .ok (.lconst i, 1)) (pc' : Nat) (v : Int64) (hv : Int64.ofNat i = v) (H : W l Z R K Q h cc ss pc' ls (.long v :: st)) (hp : pc + 1 = pc' := by rfl) : W l Z R K Q h cc ss pc ls (st) := by
  subst hp
  subst hv
  exact fun T L X N e => Ends.step (fun t k => XS.lconst X.here ok.1 rfl (hb ok.2.2.1 hd)  k) (H T L X N e)
theorem W.aconstNull (ok : Ok Z K y code maxL ret)  (hd : decode code pc = .ok (.aconst_null, 1)) (pc' : Nat) (H : W l Z R K Q h cc ss pc' ls (.null :: st)) (hp : pc + 1 = pc' := by rfl) : W l Z R K Q h cc ss pc ls (st) := by
  subst hp
  exact fun T L X N e => Ends.step (fun t k => XS.aconstNull X.here ok.1 rfl (hb ok.2.2.1 hd)  k) (H T L X N e)
theorem W.iadd (ok : Ok Z K y code maxL ret) {x z : Int32} (hd : decode code pc = .ok (.iadd, 1)) (pc' : Nat) (H : W l Z R K Q h cc ss pc' ls (.int (x + z) :: st)) (hp : pc + 1 = pc' := by rfl) : W l Z R K Q h cc ss pc ls (.int z :: .int x :: st) := by
  subst hp
  exact fun T L X N e => Ends.step (fun t k => XS.iadd X.here ok.1 rfl (hb ok.2.2.1 hd) rfl k) (H T L X N e)
theorem W.iaddV (ok : Ok Z K y code maxL ret) {x z : Int32} (hd : decode code pc = .ok (.iadd, 1)) (pc' : Nat) (v : Int32) (hv : x + z = v) (H : W l Z R K Q h cc ss pc' ls (.int v :: st)) (hp : pc + 1 = pc' := by rfl) : W l Z R K Q h cc ss pc ls (.int z :: .int x :: st) := by
  subst hp
  subst hv
  exact fun T L X N e => Ends.step (fun t k => XS.iadd X.here ok.1 rfl (hb ok.2.2.1 hd) rfl k) (H T L X N e)
theorem W.isub (ok : Ok Z K y code maxL ret) {x z : Int32} (hd : decode code pc = .ok (.isub, 1)) (pc' : Nat) (H : W l Z R K Q h cc ss pc' ls (.int (x - z) :: st)) (hp : pc + 1 = pc' := by rfl) : W l Z R K Q h cc ss pc ls (.int z :: .int x :: st) := by
  subst hp
  exact fun T L X N e => Ends.step (fun t k => XS.isub X.here ok.1 rfl (hb ok.2.2.1 hd) rfl k) (H T L X N e)
theorem W.isubV (ok : Ok Z K y code maxL ret) {x z : Int32} (hd : decode code pc = .ok (.isub, 1)) (pc' : Nat) (v : Int32) (hv : x - z = v) (H : W l Z R K Q h cc ss pc' ls (.int v :: st)) (hp : pc + 1 = pc' := by rfl) : W l Z R K Q h cc ss pc ls (.int z :: .int x :: st) := by
  subst hp
  subst hv
  exact fun T L X N e => Ends.step (fun t k => XS.isub X.here ok.1 rfl (hb ok.2.2.1 hd) rfl k) (H T L X N e)
theorem W.imul (ok : Ok Z K y code maxL ret) {x z : Int32} (hd : decode code pc = .ok (.imul, 1)) (pc' : Nat) (H : W l Z R K Q h cc ss pc' ls (.int (x * z) :: st)) (hp : pc + 1 = pc' := by rfl) : W l Z R K Q h cc ss pc ls (.int z :: .int x :: st) := by
  subst hp
  exact fun T L X N e => Ends.step (fun t k => XS.imul X.here ok.1 rfl (hb ok.2.2.1 hd) rfl k) (H T L X N e)
theorem W.imulV (ok : Ok Z K y code maxL ret) {x z : Int32} (hd : decode code pc = .ok (.imul, 1)) (pc' : Nat) (v : Int32) (hv : x * z = v) (H : W l Z R K Q h cc ss pc' ls (.int v :: st)) (hp : pc + 1 = pc' := by rfl) : W l Z R K Q h cc ss pc ls (.int z :: .int x :: st) := by
  subst hp
  subst hv
  exact fun T L X N e => Ends.step (fun t k => XS.imul X.here ok.1 rfl (hb ok.2.2.1 hd) rfl k) (H T L X N e)
theorem W.iand (ok : Ok Z K y code maxL ret) {x z : Int32} (hd : decode code pc = .ok (.iand, 1)) (pc' : Nat) (H : W l Z R K Q h cc ss pc' ls (.int (x &&& z) :: st)) (hp : pc + 1 = pc' := by rfl) : W l Z R K Q h cc ss pc ls (.int z :: .int x :: st) := by
  subst hp
  exact fun T L X N e => Ends.step (fun t k => XS.iand X.here ok.1 rfl (hb ok.2.2.1 hd) rfl k) (H T L X N e)
theorem W.iandV (ok : Ok Z K y code maxL ret) {x z : Int32} (hd : decode code pc = .ok (.iand, 1)) (pc' : Nat) (v : Int32) (hv : x &&& z = v) (H : W l Z R K Q h cc ss pc' ls (.int v :: st)) (hp : pc + 1 = pc' := by rfl) : W l Z R K Q h cc ss pc ls (.int z :: .int x :: st) := by
  subst hp
  subst hv
  exact fun T L X N e => Ends.step (fun t k => XS.iand X.here ok.1 rfl (hb ok.2.2.1 hd) rfl k) (H T L X N e)
theorem W.ior (ok : Ok Z K y code maxL ret) {x z : Int32} (hd : decode code pc = .ok (.ior, 1)) (pc' : Nat) (H : W l Z R K Q h cc ss pc' ls (.int (x ||| z) :: st)) (hp : pc + 1 = pc' := by rfl) : W l Z R K Q h cc ss pc ls (.int z :: .int x :: st) := by
  subst hp
  exact fun T L X N e => Ends.step (fun t k => XS.ior X.here ok.1 rfl (hb ok.2.2.1 hd) rfl k) (H T L X N e)
theorem W.iorV (ok : Ok Z K y code maxL ret) {x z : Int32} (hd : decode code pc = .ok (.ior, 1)) (pc' : Nat) (v : Int32) (hv : x ||| z = v) (H : W l Z R K Q h cc ss pc' ls (.int v :: st)) (hp : pc + 1 = pc' := by rfl) : W l Z R K Q h cc ss pc ls (.int z :: .int x :: st) := by
  subst hp
  subst hv
  exact fun T L X N e => Ends.step (fun t k => XS.ior X.here ok.1 rfl (hb ok.2.2.1 hd) rfl k) (H T L X N e)
theorem W.ixor (ok : Ok Z K y code maxL ret) {x z : Int32} (hd : decode code pc = .ok (.ixor, 1)) (pc' : Nat) (H : W l Z R K Q h cc ss pc' ls (.int (x ^^^ z) :: st)) (hp : pc + 1 = pc' := by rfl) : W l Z R K Q h cc ss pc ls (.int z :: .int x :: st) := by
  subst hp
  exact fun T L X N e => Ends.step (fun t k => XS.ixor X.here ok.1 rfl (hb ok.2.2.1 hd) rfl k) (H T L X N e)
theorem W.ixorV (ok : Ok Z K y code maxL ret) {x z : Int32} (hd : decode code pc = .ok (.ixor, 1)) (pc' : Nat) (v : Int32) (hv : x ^^^ z = v) (H : W l Z R K Q h cc ss pc' ls (.int v :: st)) (hp : pc + 1 = pc' := by rfl) : W l Z R K Q h cc ss pc ls (.int z :: .int x :: st) := by
  subst hp
  subst hv
  exact fun T L X N e => Ends.step (fun t k => XS.ixor X.here ok.1 rfl (hb ok.2.2.1 hd) rfl k) (H T L X N e)
theorem W.ishl (ok : Ok Z K y code maxL ret) {x z : Int32} (hd : decode code pc = .ok (.ishl, 1)) (pc' : Nat) (H : W l Z R K Q h cc ss pc' ls (.int (x <<< (z &&& 31)) :: st)) (hp : pc + 1 = pc' := by rfl) : W l Z R K Q h cc ss pc ls (.int z :: .int x :: st) := by
  subst hp
  exact fun T L X N e => Ends.step (fun t k => XS.ishl X.here ok.1 rfl (hb ok.2.2.1 hd) rfl k) (H T L X N e)
theorem W.ishlV (ok : Ok Z K y code maxL ret) {x z : Int32} (hd : decode code pc = .ok (.ishl, 1)) (pc' : Nat) (v : Int32) (hv : x <<< (z &&& 31) = v) (H : W l Z R K Q h cc ss pc' ls (.int v :: st)) (hp : pc + 1 = pc' := by rfl) : W l Z R K Q h cc ss pc ls (.int z :: .int x :: st) := by
  subst hp
  subst hv
  exact fun T L X N e => Ends.step (fun t k => XS.ishl X.here ok.1 rfl (hb ok.2.2.1 hd) rfl k) (H T L X N e)
theorem W.ishr (ok : Ok Z K y code maxL ret) {x z : Int32} (hd : decode code pc = .ok (.ishr, 1)) (pc' : Nat) (H : W l Z R K Q h cc ss pc' ls (.int (x >>> (z &&& 31)) :: st)) (hp : pc + 1 = pc' := by rfl) : W l Z R K Q h cc ss pc ls (.int z :: .int x :: st) := by
  subst hp
  exact fun T L X N e => Ends.step (fun t k => XS.ishr X.here ok.1 rfl (hb ok.2.2.1 hd) rfl k) (H T L X N e)
theorem W.ishrV (ok : Ok Z K y code maxL ret) {x z : Int32} (hd : decode code pc = .ok (.ishr, 1)) (pc' : Nat) (v : Int32) (hv : x >>> (z &&& 31) = v) (H : W l Z R K Q h cc ss pc' ls (.int v :: st)) (hp : pc + 1 = pc' := by rfl) : W l Z R K Q h cc ss pc ls (.int z :: .int x :: st) := by
  subst hp
  subst hv
  exact fun T L X N e => Ends.step (fun t k => XS.ishr X.here ok.1 rfl (hb ok.2.2.1 hd) rfl k) (H T L X N e)
theorem W.iushr (ok : Ok Z K y code maxL ret) {x z : Int32} (hd : decode code pc = .ok (.iushr, 1)) (pc' : Nat) (H : W l Z R K Q h cc ss pc' ls (.int ((x.toUInt32 >>> (z &&& 31).toUInt32).toInt32) :: st)) (hp : pc + 1 = pc' := by rfl) : W l Z R K Q h cc ss pc ls (.int z :: .int x :: st) := by
  subst hp
  exact fun T L X N e => Ends.step (fun t k => XS.iushr X.here ok.1 rfl (hb ok.2.2.1 hd) rfl k) (H T L X N e)
theorem W.iushrV (ok : Ok Z K y code maxL ret) {x z : Int32} (hd : decode code pc = .ok (.iushr, 1)) (pc' : Nat) (v : Int32) (hv : (x.toUInt32 >>> (z &&& 31).toUInt32).toInt32 = v) (H : W l Z R K Q h cc ss pc' ls (.int v :: st)) (hp : pc + 1 = pc' := by rfl) : W l Z R K Q h cc ss pc ls (.int z :: .int x :: st) := by
  subst hp
  subst hv
  exact fun T L X N e => Ends.step (fun t k => XS.iushr X.here ok.1 rfl (hb ok.2.2.1 hd) rfl k) (H T L X N e)
theorem W.ladd (ok : Ok Z K y code maxL ret) {x z : Int64} (hd : decode code pc = .ok (.ladd, 1)) (pc' : Nat) (H : W l Z R K Q h cc ss pc' ls (.long (x + z) :: st)) (hp : pc + 1 = pc' := by rfl) : W l Z R K Q h cc ss pc ls (.long z :: .long x :: st) := by
  subst hp
  exact fun T L X N e => Ends.step (fun t k => XS.ladd X.here ok.1 rfl (hb ok.2.2.1 hd) rfl k) (H T L X N e)
theorem W.lsub (ok : Ok Z K y code maxL ret) {x z : Int64} (hd : decode code pc = .ok (.lsub, 1)) (pc' : Nat) (H : W l Z R K Q h cc ss pc' ls (.long (x - z) :: st)) (hp : pc + 1 = pc' := by rfl) : W l Z R K Q h cc ss pc ls (.long z :: .long x :: st) := by
  subst hp
  exact fun T L X N e => Ends.step (fun t k => XS.lsub X.here ok.1 rfl (hb ok.2.2.1 hd) rfl k) (H T L X N e)
theorem W.lmul (ok : Ok Z K y code maxL ret) {x z : Int64} (hd : decode code pc = .ok (.lmul, 1)) (pc' : Nat) (H : W l Z R K Q h cc ss pc' ls (.long (x * z) :: st)) (hp : pc + 1 = pc' := by rfl) : W l Z R K Q h cc ss pc ls (.long z :: .long x :: st) := by
  subst hp
  exact fun T L X N e => Ends.step (fun t k => XS.lmul X.here ok.1 rfl (hb ok.2.2.1 hd) rfl k) (H T L X N e)
theorem W.land (ok : Ok Z K y code maxL ret) {x z : Int64} (hd : decode code pc = .ok (.land, 1)) (pc' : Nat) (H : W l Z R K Q h cc ss pc' ls (.long (x &&& z) :: st)) (hp : pc + 1 = pc' := by rfl) : W l Z R K Q h cc ss pc ls (.long z :: .long x :: st) := by
  subst hp
  exact fun T L X N e => Ends.step (fun t k => XS.land X.here ok.1 rfl (hb ok.2.2.1 hd) rfl k) (H T L X N e)
theorem W.lor (ok : Ok Z K y code maxL ret) {x z : Int64} (hd : decode code pc = .ok (.lor, 1)) (pc' : Nat) (H : W l Z R K Q h cc ss pc' ls (.long (x ||| z) :: st)) (hp : pc + 1 = pc' := by rfl) : W l Z R K Q h cc ss pc ls (.long z :: .long x :: st) := by
  subst hp
  exact fun T L X N e => Ends.step (fun t k => XS.lor X.here ok.1 rfl (hb ok.2.2.1 hd) rfl k) (H T L X N e)
theorem W.lxor (ok : Ok Z K y code maxL ret) {x z : Int64} (hd : decode code pc = .ok (.lxor, 1)) (pc' : Nat) (H : W l Z R K Q h cc ss pc' ls (.long (x ^^^ z) :: st)) (hp : pc + 1 = pc' := by rfl) : W l Z R K Q h cc ss pc ls (.long z :: .long x :: st) := by
  subst hp
  exact fun T L X N e => Ends.step (fun t k => XS.lxor X.here ok.1 rfl (hb ok.2.2.1 hd) rfl k) (H T L X N e)
theorem W.lshl (ok : Ok Z K y code maxL ret) {x : Int64} {z : Int32} (hd : decode code pc = .ok (.lshl, 1)) (pc' : Nat) (H : W l Z R K Q h cc ss pc' ls (.long (x <<< (z &&& 0x3f).toInt64) :: st)) (hp : pc + 1 = pc' := by rfl) : W l Z R K Q h cc ss pc ls (.int z :: .long x :: st) := by
  subst hp
  exact fun T L X N e => Ends.step (fun t k => XS.lshl X.here ok.1 rfl (hb ok.2.2.1 hd) rfl k) (H T L X N e)
theorem W.lshr (ok : Ok Z K y code maxL ret) {x : Int64} {z : Int32} (hd : decode code pc = .ok (.lshr, 1)) (pc' : Nat) (H : W l Z R K Q h cc ss pc' ls (.long (x >>> (z &&& 0x3f).toInt64) :: st)) (hp : pc + 1 = pc' := by rfl) : W l Z R K Q h cc ss pc ls (.int z :: .long x :: st) := by
  subst hp
  exact fun T L X N e => Ends.step (fun t k => XS.lshr X.here ok.1 rfl (hb ok.2.2.1 hd) rfl k) (H T L X N e)
theorem W.lushr (ok : Ok Z K y code maxL ret) {x : Int64} {z : Int32} (hd : decode code pc = .ok (.lushr, 1)) (pc' : Nat) (H : W l Z R K Q h cc ss pc' ls (.long ((x.toUInt64 >>> (z &&& 0x3f).toInt64.toUInt64).toInt64) :: st)) (hp : pc + 1 = pc' := by rfl) : W l Z R K Q h cc ss pc ls (.int z :: .long x :: st) := by
  subst hp
  exact fun T L X N e => Ends.step (fun t k => XS.lushr X.here ok.1 rfl (hb ok.2.2.1 hd) rfl k) (H T L X N e)
theorem W.idiv (ok : Ok Z K y code maxL ret) {x z : Int32} (hd : decode code pc = .ok (.idiv, 1)) (pc' : Nat) (hz : z ≠ 0) (H : W l Z R K Q h cc ss pc' ls (.int (x / z) :: st)) (hp : pc + 1 = pc' := by rfl) : W l Z R K Q h cc ss pc ls (.int z :: .int x :: st) := by
  subst hp
  exact fun T L X N e => Ends.step (fun t k => XS.idiv X.here ok.1 rfl (hb ok.2.2.1 hd) rfl hz k) (H T L X N e)
theorem W.irem (ok : Ok Z K y code maxL ret) {x z : Int32} (hd : decode code pc = .ok (.irem, 1)) (pc' : Nat) (hz : z ≠ 0) (H : W l Z R K Q h cc ss pc' ls (.int (x % z) :: st)) (hp : pc + 1 = pc' := by rfl) : W l Z R K Q h cc ss pc ls (.int z :: .int x :: st) := by
  subst hp
  exact fun T L X N e => Ends.step (fun t k => iremM X ok.1 rfl (hb ok.2.2.1 hd) rfl hz k) (H T L X N e)
theorem W.ineg (ok : Ok Z K y code maxL ret) {x : Int32} (hd : decode code pc = .ok (.ineg, 1)) (pc' : Nat) (H : W l Z R K Q h cc ss pc' ls (.int (-x) :: st)) (hp : pc + 1 = pc' := by rfl) : W l Z R K Q h cc ss pc ls (.int x :: st) := by
  subst hp
  exact fun T L X N e => Ends.step (fun t k => XS.ineg X.here ok.1 rfl (hb ok.2.2.1 hd) rfl k) (H T L X N e)
theorem W.inegV (ok : Ok Z K y code maxL ret) {x : Int32} (hd : decode code pc = .ok (.ineg, 1)) (pc' : Nat) (v : Int32) (hv : -x = v) (H : W l Z R K Q h cc ss pc' ls (.int v :: st)) (hp : pc + 1 = pc' := by rfl) : W l Z R K Q h cc ss pc ls (.int x :: st) := by
  subst hp
  subst hv
  exact fun T L X N e => Ends.step (fun t k => XS.ineg X.here ok.1 rfl (hb ok.2.2.1 hd) rfl k) (H T L X N e)
theorem W.i2b (ok : Ok Z K y code maxL ret) {x : Int32} (hd : decode code pc = .ok (.i2b, 1)) (pc' : Nat) (H : W l Z R K Q h cc ss pc' ls (.int (x.toInt8.toInt32) :: st)) (hp : pc + 1 = pc' := by rfl) : W l Z R K Q h cc ss pc ls (.int x :: st) := by
  subst hp
  exact fun T L X N e => Ends.step (fun t k => XS.i2b X.here ok.1 rfl (hb ok.2.2.1 hd) rfl k) (H T L X N e)
theorem W.i2bV (ok : Ok Z K y code maxL ret) {x : Int32} (hd : decode code pc = .ok (.i2b, 1)) (pc' : Nat) (v : Int32) (hv : x.toInt8.toInt32 = v) (H : W l Z R K Q h cc ss pc' ls (.int v :: st)) (hp : pc + 1 = pc' := by rfl) : W l Z R K Q h cc ss pc ls (.int x :: st) := by
  subst hp
  subst hv
  exact fun T L X N e => Ends.step (fun t k => XS.i2b X.here ok.1 rfl (hb ok.2.2.1 hd) rfl k) (H T L X N e)
theorem W.i2c (ok : Ok Z K y code maxL ret) {x : Int32} (hd : decode code pc = .ok (.i2c, 1)) (pc' : Nat) (H : W l Z R K Q h cc ss pc' ls (.int (x.toUInt32.toUInt16.toUInt32.toInt32) :: st)) (hp : pc + 1 = pc' := by rfl) : W l Z R K Q h cc ss pc ls (.int x :: st) := by
  subst hp
  exact fun T L X N e => Ends.step (fun t k => XS.i2c X.here ok.1 rfl (hb ok.2.2.1 hd) rfl k) (H T L X N e)
theorem W.i2cV (ok : Ok Z K y code maxL ret) {x : Int32} (hd : decode code pc = .ok (.i2c, 1)) (pc' : Nat) (v : Int32) (hv : x.toUInt32.toUInt16.toUInt32.toInt32 = v) (H : W l Z R K Q h cc ss pc' ls (.int v :: st)) (hp : pc + 1 = pc' := by rfl) : W l Z R K Q h cc ss pc ls (.int x :: st) := by
  subst hp
  subst hv
  exact fun T L X N e => Ends.step (fun t k => XS.i2c X.here ok.1 rfl (hb ok.2.2.1 hd) rfl k) (H T L X N e)
theorem W.i2s (ok : Ok Z K y code maxL ret) {x : Int32} (hd : decode code pc = .ok (.i2s, 1)) (pc' : Nat) (H : W l Z R K Q h cc ss pc' ls (.int (x.toInt16.toInt32) :: st)) (hp : pc + 1 = pc' := by rfl) : W l Z R K Q h cc ss pc ls (.int x :: st) := by
  subst hp
  exact fun T L X N e => Ends.step (fun t k => XS.i2s X.here ok.1 rfl (hb ok.2.2.1 hd) rfl k) (H T L X N e)
theorem W.i2sV (ok : Ok Z K y code maxL ret) {x : Int32} (hd : decode code pc = .ok (.i2s, 1)) (pc' : Nat) (v : Int32) (hv : x.toInt16.toInt32 = v) (H : W l Z R K Q h cc ss pc' ls (.int v :: st)) (hp : pc + 1 = pc' := by rfl) : W l Z R K Q h cc ss pc ls (.int x :: st) := by
  subst hp
  subst hv
  exact fun T L X N e => Ends.step (fun t k => XS.i2s X.here ok.1 rfl (hb ok.2.2.1 hd) rfl k) (H T L X N e)
theorem W.i2l (ok : Ok Z K y code maxL ret) {x : Int32} (hd : decode code pc = .ok (.i2l, 1)) (pc' : Nat) (H : W l Z R K Q h cc ss pc' ls (.long (x.toInt64) :: st)) (hp : pc + 1 = pc' := by rfl) : W l Z R K Q h cc ss pc ls (.int x :: st) := by
  subst hp
  exact fun T L X N e => Ends.step (fun t k => XS.i2l X.here ok.1 rfl (hb ok.2.2.1 hd) rfl k) (H T L X N e)
theorem W.l2i (ok : Ok Z K y code maxL ret) {x : Int64} (hd : decode code pc = .ok (.l2i, 1)) (pc' : Nat) (H : W l Z R K Q h cc ss pc' ls (.int (x.toInt32) :: st)) (hp : pc + 1 = pc' := by rfl) : W l Z R K Q h cc ss pc ls (.long x :: st) := by
  subst hp
  exact fun T L X N e => Ends.step (fun t k => XS.l2i X.here ok.1 rfl (hb ok.2.2.1 hd) rfl k) (H T L X N e)
theorem W.lneg (ok : Ok Z K y code maxL ret) {x : Int64} (hd : decode code pc = .ok (.lneg, 1)) (pc' : Nat) (H : W l Z R K Q h cc ss pc' ls (.long (-x) :: st)) (hp : pc + 1 = pc' := by rfl) : W l Z R K Q h cc ss pc ls (.long x :: st) := by
  subst hp
  exact fun T L X N e => Ends.step (fun t k => XS.lneg X.here ok.1 rfl (hb ok.2.2.1 hd) rfl k) (H T L X N e)
theorem W.iinc (ok : Ok Z K y code maxL ret) {k : Nat} {cst : Int} {x : Int32} (hd : decode code pc = .ok (.iinc k cst, 3)) (pc' : Nat) (v : Int32) (ls' : Array Slot) (hl : ls[k]? = some (.val (.int x))) (hv : x + Int32.ofInt cst = v) (hl' : storeLocals ls k (.int v) = some ls') (H : W l Z R K Q h cc ss pc' ls' (st)) (hp : pc + 3 = pc' := by rfl) : W l Z R K Q h cc ss pc ls (st) := by
  subst hp
  subst hv
  exact fun T L X N e => Ends.step (fun t k => XS.iinc X.here ok.1 rfl (hb ok.2.2.1 hd) hl hl' k) (H T L X N e)
theorem W.dup (ok : Ok Z K y code maxL ret) {v : Value} (hd : decode code pc = .ok (.dup, 1)) (pc' : Nat) (hv : v.category = 1) (H : W l Z R K Q h cc ss pc' ls (v :: v :: st)) (hp : pc + 1 = pc' := by rfl) : W l Z R K Q h cc ss pc ls (v :: st) := by
  subst hp
  exact fun T L X N e => Ends.step (fun t k => XS.dup X.here ok.1 rfl (hb ok.2.2.1 hd) rfl hv k) (H T L X N e)
theorem W.dupX1 (ok : Ok Z K y code maxL ret) {v w : Value} (hd : decode code pc = .ok (.dup_x1, 1)) (pc' : Nat) (hv : v.category = 1) (hw : w.category = 1) (H : W l Z R K Q h cc ss pc' ls (v :: w :: v :: st)) (hp : pc + 1 = pc' := by rfl) : W l Z R K Q h cc ss pc ls (v :: w :: st) := by
  subst hp
  exact fun T L X N e => Ends.step (fun t k => XS.dupX1 X.here ok.1 rfl (hb ok.2.2.1 hd) rfl hv hw k) (H T L X N e)
theorem W.pop (ok : Ok Z K y code maxL ret) {v : Value} (hd : decode code pc = .ok (.pop, 1)) (pc' : Nat) (hv : v.category = 1) (H : W l Z R K Q h cc ss pc' ls (st)) (hp : pc + 1 = pc' := by rfl) : W l Z R K Q h cc ss pc ls (v :: st) := by
  subst hp
  exact fun T L X N e => Ends.step (fun t k => XS.pop X.here ok.1 rfl (hb ok.2.2.1 hd) rfl hv k) (H T L X N e)
theorem W.goto (ok : Ok Z K y code maxL ret) {o : Int} (hd : decode code pc = .ok (.goto o, 3)) (pc' : Nat) (H : W l Z R K Q h cc ss pc' ls st) (ho : 0 ≤ (pc : Int) + o := by decide) (hp : ((pc : Int) + o).toNat = pc' := by decide) : W l Z R K Q h cc ss pc ls st :=
  fun T L X N e => Ends.step (fun t k => XS.goto X.here ok.1 rfl (pc0 := pc) (pc' := pc') rfl (hb ok.2.2.1 hd) ho hp k) (H T L X N e)
theorem W.icmpT (ok : Ok Z K y code maxL ret) {cd : ClassFile.Cond} {x z : Int32} {o : Int} (hd : decode code pc = .ok (.if_icmp cd o, 3)) (pc' : Nat) (hc : cdT cd x z) (H : W l Z R K Q h cc ss pc' ls st) (ho : 0 ≤ (pc : Int) + o := by decide) (hp : ((pc : Int) + o).toNat = pc' := by decide) : W l Z R K Q h cc ss pc ls (.int z :: .int x :: st) :=
  fun T L X N e => Ends.step (fun t k => XS.icmpYes X.here ok.1 rfl (pc0 := pc) (pc' := pc') rfl (hb ok.2.2.1 hd) rfl (cd_t hc) ho hp k) (H T L X N e)
theorem W.icmpF (ok : Ok Z K y code maxL ret) {cd : ClassFile.Cond} {x z : Int32} {o : Int} (hd : decode code pc = .ok (.if_icmp cd o, 3)) (pc' : Nat) (hc : cdF cd x z) (H : W l Z R K Q h cc ss pc' ls st) (hp : pc + 3 = pc' := by rfl) : W l Z R K Q h cc ss pc ls (.int z :: .int x :: st) := by
  subst hp
  exact fun T L X N e => Ends.step (fun t k => XS.icmpNo X.here ok.1 rfl (hb ok.2.2.1 hd) rfl (cd_f hc) k) (H T L X N e)
theorem W.icmp (ok : Ok Z K y code maxL ret) {cd : ClassFile.Cond} {x z : Int32} {o : Int} (hd : decode code pc = .ok (.if_icmp cd o, 3)) (pcT pcF : Nat) (HT : cdT cd x z → W l Z R K Q h cc ss pcT ls st) (HF : cdF cd x z → W l Z R K Q h cc ss pcF ls st) (ho : 0 ≤ (pc : Int) + o := by decide) (hp : ((pc : Int) + o).toNat = pcT := by decide) (hq : pc + 3 = pcF := by rfl) : W l Z R K Q h cc ss pc ls (.int z :: .int x :: st) :=
  (cd_or cd x z).elim (fun hc => W.icmpT ok hd pcT hc (HT hc) ho hp) (fun hc => W.icmpF ok hd pcF hc (HF hc) hq)
theorem W.ifT (ok : Ok Z K y code maxL ret) {cd : ClassFile.Cond} {x : Int32} {o : Int} (hd : decode code pc = .ok (.ifCond cd o, 3)) (pc' : Nat) (hc : cdT cd x 0) (H : W l Z R K Q h cc ss pc' ls st) (ho : 0 ≤ (pc : Int) + o := by decide) (hp : ((pc : Int) + o).toNat = pc' := by decide) : W l Z R K Q h cc ss pc ls (.int x :: st) :=
  fun T L X N e => Ends.step (fun t k => XS.ifYes X.here ok.1 rfl (pc0 := pc) (pc' := pc') rfl (hb ok.2.2.1 hd) rfl ((if0 _ _).trans (cd_t hc)) ho hp k) (H T L X N e)
theorem W.ifF (ok : Ok Z K y code maxL ret) {cd : ClassFile.Cond} {x : Int32} {o : Int} (hd : decode code pc = .ok (.ifCond cd o, 3)) (pc' : Nat) (hc : cdF cd x 0) (H : W l Z R K Q h cc ss pc' ls st) (hp : pc + 3 = pc' := by rfl) : W l Z R K Q h cc ss pc ls (.int x :: st) := by
  subst hp
  exact fun T L X N e => Ends.step (fun t k => XS.ifNo X.here ok.1 rfl (hb ok.2.2.1 hd) rfl ((if0 _ _).trans (cd_f hc)) k) (H T L X N e)
theorem W.iff (ok : Ok Z K y code maxL ret) {cd : ClassFile.Cond} {x : Int32} {o : Int} (hd : decode code pc = .ok (.ifCond cd o, 3)) (pcT pcF : Nat) (HT : cdT cd x 0 → W l Z R K Q h cc ss pcT ls st) (HF : cdF cd x 0 → W l Z R K Q h cc ss pcF ls st) (ho : 0 ≤ (pc : Int) + o := by decide) (hp : ((pc : Int) + o).toNat = pcT := by decide) (hq : pc + 3 = pcF := by rfl) : W l Z R K Q h cc ss pc ls (.int x :: st) :=
  (cd_or cd x 0).elim (fun hc => W.ifT ok hd pcT hc (HT hc) ho hp) (fun hc => W.ifF ok hd pcF hc (HF hc) hq)
theorem W.ifnullT (ok : Ok Z K y code maxL ret) {o : Int} (hd : decode code pc = .ok (.ifnull o, 3)) (pc' : Nat) (H : W l Z R K Q h cc ss pc' ls st) (ho : 0 ≤ (pc : Int) + o := by decide) (hp : ((pc : Int) + o).toNat = pc' := by decide) : W l Z R K Q h cc ss pc ls (.null :: st) :=
  fun T L X N e => Ends.step (fun t k => XS.ifnullYes X.here ok.1 rfl (pc0 := pc) (pc' := pc') rfl (hb ok.2.2.1 hd) rfl ho hp k) (H T L X N e)
theorem W.ifnullF (ok : Ok Z K y code maxL ret) {o : Int} {a : Addr} (hd : decode code pc = .ok (.ifnull o, 3)) (pc' : Nat) (H : W l Z R K Q h cc ss pc' ls st) (hp : pc + 3 = pc' := by rfl) : W l Z R K Q h cc ss pc ls (.ref a :: st) := by
  subst hp
  exact fun T L X N e => Ends.step (fun t k => XS.ifnullNo X.here ok.1 rfl (hb ok.2.2.1 hd) rfl k) (H T L X N e)
theorem W.ifnonnullT (ok : Ok Z K y code maxL ret) {o : Int} {a : Addr} (hd : decode code pc = .ok (.ifnonnull o, 3)) (pc' : Nat) (H : W l Z R K Q h cc ss pc' ls st) (ho : 0 ≤ (pc : Int) + o := by decide) (hp : ((pc : Int) + o).toNat = pc' := by decide) : W l Z R K Q h cc ss pc ls (.ref a :: st) :=
  fun T L X N e => Ends.step (fun t k => XS.ifnonnullYes X.here ok.1 rfl (pc0 := pc) (pc' := pc') rfl (hb ok.2.2.1 hd) rfl ho hp k) (H T L X N e)
theorem W.ifnonnullF (ok : Ok Z K y code maxL ret) {o : Int} (hd : decode code pc = .ok (.ifnonnull o, 3)) (pc' : Nat) (H : W l Z R K Q h cc ss pc' ls st) (hp : pc + 3 = pc' := by rfl) : W l Z R K Q h cc ss pc ls (.null :: st) := by
  subst hp
  exact fun T L X N e => Ends.step (fun t k => XS.ifnonnullNo X.here ok.1 rfl (hb ok.2.2.1 hd) rfl k) (H T L X N e)
theorem W.acmp (ok : Ok Z K y code maxL ret) {cd : ACond} {v w : Value} {o : Int} (hd : decode code pc = .ok (.if_acmp cd o, 3)) (pc' : Nat) (same : Bool) (hq : decide (v = w) = same) (H : W l Z R K Q h cc ss pc' ls st) (hv : v.isRef = true := by rfl) (hw : w.isRef = true := by rfl) (ho : 0 ≤ (pc : Int) + o := by decide) (hp : pc' = if acV cd same = true then ((pc : Int) + o).toNat else pc + 3 := by decide) : W l Z R K Q h cc ss pc ls (w :: v :: st) :=
  fun T L X N e => Ends.step (fun t k => Jvm.RoadKit.acmp (g := mkF K.m pc ls (w :: v :: st)) X ok.1 rfl hv hw (pc0 := pc) (pc' := pc') rfl (hb ok.2.2.1 hd) rfl hq ho hp k) (H T L X N e)
theorem tb_of {tb : ∀ d ∈ ts, d.before a0 Z = true} {i : Nat} {d : Jvm.Cond} (w : ts[i]? = some d) : d.before a0 Z = true := tb d (List.mem_of_getElem? w)
theorem W.ldc (ok : Ok Z K y code maxL ret) (tb : ∀ d ∈ ts, d.before a0 Z = true) (i : Nat) {idx : Nat} {v : Int32} (w : ts[i]? = some (.constant y.cls idx v)) (hd : decode code pc = .ok (.ldc idx, 2)) (pc' : Nat) (H : W l Z R K Q h cc ss pc' ls (.int v :: st)) (hp : pc + 2 = pc' := by rfl) : W l Z R K Q h cc ss pc ls st := by
  subst hp
  exact fun T L X N e => Ends.step (fun t k => X.ldcInt ok.1 ok.2.2.2.2.1 (mvT ok.2.1 (tb _ (List.mem_of_getElem? w))) (g := mkF K.m pc ls st) rfl (hb ok.2.2.1 hd) _ k) (H T L X N e)
theorem W.ldcw (ok : Ok Z K y code maxL ret) (tb : ∀ d ∈ ts, d.before a0 Z = true) (i : Nat) {idx : Nat} {v : Int32} (w : ts[i]? = some (.constant y.cls idx v)) (hd : decode code pc = .ok (.ldc_w idx, 3)) (pc' : Nat) (H : W l Z R K Q h cc ss pc' ls (.int v :: st)) (hp : pc + 3 = pc' := by rfl) : W l Z R K Q h cc ss pc ls st := by
  subst hp
  exact fun T L X N e => Ends.step (fun t k => X.ldcwInt ok.1 ok.2.2.2.2.1 (mvT ok.2.1 (tb _ (List.mem_of_getElem? w))) (g := mkF K.m pc ls st) rfl (hb ok.2.2.1 hd) _ k) (H T L X N e)

/-! returns -/
theorem W.retA {t : FieldType} (ok : Ok Z K y code maxL (some t)) {w : Value} {i : Instr} (hd : decode code pc = .ok (i, 1)) (hn : narrow t w = w)
    (hi : (i = .ireturn ∧ (t = .int ∨ t = .boolean ∨ t = .byte ∨ t = .char ∨ t = .short) ∧ ∃ z, w = .int z) ∨ (i = .lreturn ∧ t = .long ∧ ∃ z, w = .long z) ∨ (i = .dreturn ∧ t = .double ∧ ∃ z, w = .double z) ∨ (i = .freturn ∧ t = .float ∧ ∃ z, w = .float z) ∨ (i = .areturn ∧ t.isReference = true ∧ w.isRef = true))
    (HQ : Q (some w) h) (hc : cc ≤ R.cells) (hs : ss ≤ R.slots) : W l Z R K Q h cc ss pc ls (w :: st) := by
  intro T L X N e
  obtain ⟨fs, hr, hrun, hended, hW, hsame⟩ := X.leave (v := some w) (fun q => by rw [ok.2.2.2.2.2.1] at q; cases q) ok.2.2.2.2.2.2.2.1
  exact ⟨_, _, retOut X ok.1 ok.2.2.2.2.2.1 hn hi (hb ok.2.2.1 hd) hr, hrun, hended, _, L, rfl, ⟨by show Q (some w) T.heap; rw [e]; exact HQ, N⟩, ok.2.2.2.2.2.2.2.2 _ _ _ _ _ ⟨⟨_, rfl⟩, hW, hsame.mono hc hs⟩⟩
theorem W.iret {t : FieldType} (ok : Ok Z K y code maxL (some t)) {v : Int32} (hd : decode code pc = .ok (.ireturn, 1)) (hn : narrow t (.int v) = .int v) (HQ : Q (some (.int v)) h)
    (ht : t = .int ∨ t = .boolean ∨ t = .byte ∨ t = .char ∨ t = .short := by simp) (hc : cc ≤ R.cells := by decide) (hs : ss ≤ R.slots := by decide) : W l Z R K Q h cc ss pc ls (.int v :: st) :=
  W.retA ok hd hn (Or.inl ⟨rfl, ht, _, rfl⟩) HQ hc hs
theorem W.aret {t : FieldType} (ok : Ok Z K y code maxL (some t)) {w : Value} (hd : decode code pc = .ok (.areturn, 1)) (HQ : Q (some w) h) (hn : narrow t w = w := by rfl)
    (ht : t.isReference = true := by rfl) (hw : w.isRef = true := by rfl) (hc : cc ≤ R.cells := by decide) (hs : ss ≤ R.slots := by decide) : W l Z R K Q h cc ss pc ls (w :: st) :=
  W.retA ok hd hn (Or.inr (Or.inr (Or.inr (Or.inr ⟨rfl, ht, hw⟩)))) HQ hc hs
theorem W.vret (ok : Ok Z K y code maxL none) (hd : decode code pc = .ok (.return_, 1)) (HQ : Q none h) (hc : cc ≤ R.cells := by decide) (hs : ss ≤ R.slots := by decide) : W l Z R K Q h cc ss pc ls [] := by
  intro T L X N e
  obtain ⟨fs, hr, hrun, hended, hW, hsame⟩ := X.leave (v := none) (fun q => rfl) ok.2.2.2.2.2.2.2.1
  exact ⟨_, _, X.returnOut ok.1 ok.2.2.2.2.2.1 (hb ok.2.2.1 hd) hr, hrun, hended, _, L, rfl, ⟨by show Q none T.heap; rw [e]; exact HQ, N⟩, ok.2.2.2.2.2.2.2.2 _ _ _ _ _ ⟨⟨_, rfl⟩, hW, hsame.mono hc hs⟩⟩
/-! calls -/
abbrev Tb (Z : State) (a0 : Array Value) (ts : List Jvm.Cond) : Prop := ∀ d ∈ ts, d.before a0 Z = true
theorem W.callS (ok : Ok Z K y code maxL ret) (tb : Tb Z a0 ts) {idx : Nat} {z : MethodName} {code' : ByteArray} {maxL' : Nat} {ret' : Option FieldType} {rm : Room} {Q' : Option Value → Heap → Prop} {ps : List FieldType} {rt : Option FieldType} {argsL rest : List Value}
    (i1 i2 i3 i4 : Nat) (w1 : ts[i1]? = some (.methodLink y.cls idx z)) (w2 : ts[i2]? = some (.static z)) (w3 : ts[i3]? = some (.initialized z.cls)) (w4 : ts[i4]? = some (.code z code' maxL' ret'))
    (hd : decode code pc = .ok (.invokestatic idx, 3)) (hpd : parseMethodDescriptor z.desc = some ⟨ps, rt⟩) (con : Con l Z z code' maxL' ret' rm argsL.toArray h Q') (wgt cc' ss' pc' : Nat)
    (H : ∀ v h', Q' v h' → W l Z R K Q h' cc' ss' pc' ls (v.toList ++ rest))
    (hm : z.cls ≠ "java/lang/invoke/MethodHandle" ∧ z.cls ≠ "java/lang/invoke/VarHandle" := by decide) (hlen : argsL.length = ps.length := by rfl) (hst : st = argsL.reverse ++ rest := by rfl) (hW : (rest.map fun v => v.category).sum ≤ wgt := by exact Nat.le_refl _)
    (hf : rm.frames + 1 ≤ R.frames := by decide) (hl : wgt + (maxL' + 11) + rm.locals ≤ R.locals := by decide) (hc : cc' ≤ R.cells := by decide) (hs : ss' ≤ R.slots := by decide) (hc' : cc + rm.cells = cc' := by rfl) (hs' : ss + rm.slots = ss' := by rfl) (hsz : ls.size = maxL := by rfl) (hp : pc + 3 = pc' := by rfl) :
    W l Z R K Q h cc ss pc ls st := by
  subst hst hc' hs' hp
  intro T L X N e
  obtain ⟨v, _, ⟨T', L', k', n'⟩, -, X', ⟨Lc, hQ, l1, l2, l3⟩, stp⟩ := Jvm.LawKit.callS X ok.1 (y := z) ok.2.2.2.2.1 (mvT ok.2.1 (tb _ (List.mem_of_getElem? w1))) (mvT ok.2.1 (tb _ (List.mem_of_getElem? w2))) (mvT ok.2.1 (tb _ (List.mem_of_getElem? w3))) (mvT ok.2.1 (tb _ (List.mem_of_getElem? w4))) hm
    (backOf (W := wgt) (Q := fun v h L => Q' v h ∧ Fr Z.heap.size L) (con []) ok.2.1 (tb _ (List.mem_of_getElem? w4)) (tb _ (List.mem_of_getElem? w3)) hf hl) (g := mkF K.m pc ls (argsL.reverse ++ rest)) rfl (hsz.trans ok.2.2.2.1.symm) (argsL := argsL) (rest := rest) (lenOf hpd hlen) rfl (by simpa using hW) (hb ok.2.2.1 hd) (fun _ _ => ⟨rfl, e, hc, hs⟩)
  dsimp only [Pt.U, Pt.locs, Pt.cells, Pt.slots] at X' l1 l2 l3 stp hQ
  subst l1 l2 l3
  exact Ends.step stp (H v T'.heap hQ.1 T' _ X' (N.app hQ.2) rfl)
theorem W.callI (ok : Ok Z K y code maxL ret) (tb : Tb Z a0 ts) {idx : Nat} {z : MethodName} {code' : ByteArray} {maxL' : Nat} {rm : Room} {Q' : Option Value → Heap → Prop} {ps : List FieldType} {rt : Option FieldType} {a : Addr} {argsL rest : List Value}
    (i1 i2 i3 i4 : Nat) (w1 : ts[i1]? = some (.methodLink y.cls idx z)) (w2 : ts[i2]? = some (.instanceMethod z)) (w3 : ts[i3]? = some (.initialized z.cls)) (w4 : ts[i4]? = some (.code z code' maxL' none))
    (hd : decode code pc = .ok (.invokespecial idx, 3)) (hpd : parseMethodDescriptor z.desc = some ⟨ps, rt⟩) (con : Con l Z z code' maxL' none rm (.ref a :: argsL).toArray h Q') (wgt cc' ss' pc' : Nat)
    (H : ∀ v h', Q' v h' → W l Z R K Q h' cc' ss' pc' ls (v.toList ++ rest))
    (hnm : z.name = "<init>" := by rfl) (hm : z.cls ≠ "java/lang/invoke/MethodHandle" ∧ z.cls ≠ "java/lang/invoke/VarHandle" := by decide) (hlen : argsL.length = ps.length := by rfl) (hst : st = argsL.reverse ++ .ref a :: rest := by rfl) (hW : (rest.map fun v => v.category).sum ≤ wgt := by exact Nat.le_refl _)
    (hf : rm.frames + 1 ≤ R.frames := by decide) (hl : wgt + (maxL' + 11) + rm.locals ≤ R.locals := by decide) (hc : cc' ≤ R.cells := by decide) (hs : ss' ≤ R.slots := by decide) (hc' : cc + rm.cells = cc' := by rfl) (hs' : ss + rm.slots = ss' := by rfl) (hsz : ls.size = maxL := by rfl) (hp : pc + 3 = pc' := by rfl) :
    W l Z R K Q h cc ss pc ls st := by
  subst hst hc' hs' hp
  intro T L X N e
  obtain ⟨v, _, ⟨T', L', k', n'⟩, -, X', ⟨Lc, hQ, l1, l2, l3⟩, stp⟩ := X.specialBack ok.1 (y := z) hnm ok.2.2.2.2.1 (mvT ok.2.1 (tb _ (List.mem_of_getElem? w1))) (mvT ok.2.1 (tb _ (List.mem_of_getElem? w2))) (mvT ok.2.1 (tb _ (List.mem_of_getElem? w4))) hm
    (backOf (W := wgt) (Q := fun v h L => Q' v h ∧ Fr Z.heap.size L) (con []) ok.2.1 (tb _ (List.mem_of_getElem? w4)) (tb _ (List.mem_of_getElem? w3)) hf hl) (g := mkF K.m pc ls (argsL.reverse ++ .ref a :: rest)) rfl (hsz.trans ok.2.2.2.1.symm) (Steps.refl _) (a := a) (argsL := argsL) (rest := rest) (lenOf hpd hlen) rfl (by simpa using hW) (hb ok.2.2.1 hd) (fun _ _ => ⟨rfl, e, hc, hs⟩)
  dsimp only [Pt.U, Pt.locs, Pt.cells, Pt.slots] at X' l1 l2 l3 stp hQ
  subst l1 l2 l3
  exact Ends.step (fun t k => stp.trans k) (H v T'.heap hQ.1 T' _ X' (N.app hQ.2) rfl)
theorem W.initO (ok : Ok Z K y code maxL ret) (tb : Tb Z a0 ts) {idx : Nat} {a : Addr} (i1 i2 i3 : Nat) (w1 : ts[i1]? = some (.methodLink y.cls idx Lib.objectInit)) (w2 : ts[i2]? = some (.instanceMethod Lib.objectInit)) (w3 : ts[i3]? = some (.code Lib.objectInit ⟨#[0xb1]⟩ 1 none))
    (hd : decode code pc = .ok (.invokespecial idx, 3)) (wgt pc' : Nat) (H : W l Z R K Q h cc ss pc' ls st) (hW : (st.map fun v => v.category).sum ≤ wgt := by exact Nat.le_refl _) (hf : 1 ≤ R.frames := by decide) (hl : wgt + 12 ≤ R.locals := by decide) (hsz : ls.size = maxL := by rfl) (hp : pc + 3 = pc' := by rfl) :
    W l Z R K Q h cc ss pc ls (.ref a :: st) := by
  subst hp
  intro T L X N e
  obtain ⟨T', X', e', stp⟩ := Jvm.RoadKit.initO X ok.1 ok.2.1 ok.2.2.2.2.1 (tb _ (List.mem_of_getElem? w1)) (tb _ (List.mem_of_getElem? w2)) (tb _ (List.mem_of_getElem? w3)) e (g := mkF K.m pc ls (.ref a :: st)) rfl (hsz.trans ok.2.2.2.1.symm) rfl (hb ok.2.2.1 hd) hf (W := wgt) (by simpa using hW) hl
  exact Ends.step stp (H T' _ X' N e')
theorem W.callV (ok : Ok Z K y code maxL ret) (tb : Tb Z a0 ts) {idx : Nat} {z z' : MethodName} {C : String} {code' : ByteArray} {maxL' : Nat} {ret' : Option FieldType} {rm : Room} {Q' : Option Value → Heap → Prop} {ps : List FieldType} {rt : Option FieldType} {a : Addr} {argsL rest : List Value}
    (i1 i2 i3 i4 i5 i6 : Nat) (w1 : ts[i1]? = some (.methodLink y.cls idx z)) (w2 : ts[i2]? = some (.declares z)) (w3 : ts[i3]? = some (.selects C z z')) (w4 : ts[i4]? = some (.instanceMethod z')) (w5 : ts[i5]? = some (.code z' code' maxL' ret')) (w6 : ts[i6]? = some (.initialized z'.cls))
    (nf : NotFace K.s z) (E : Exa Z h a C)
    (hd : decode code pc = .ok (.invokevirtual idx, 3)) (hpd : parseMethodDescriptor z.desc = some ⟨ps, rt⟩) (con : Con l Z z' code' maxL' ret' rm (.ref a :: argsL).toArray h Q') (wgt cc' ss' pc' : Nat)
    (H : ∀ v h', Q' v h' → W l Z R K Q h' cc' ss' pc' ls (v.toList ++ rest))
    (hm : z.cls ≠ "java/lang/invoke/MethodHandle" ∧ z.cls ≠ "java/lang/invoke/VarHandle" := by decide) (hlen : argsL.length = ps.length := by rfl) (hst : st = argsL.reverse ++ .ref a :: rest := by rfl) (hW : (rest.map fun v => v.category).sum ≤ wgt := by exact Nat.le_refl _)
    (hf : rm.frames + 1 ≤ R.frames := by decide) (hl : wgt + (maxL' + 11) + rm.locals ≤ R.locals := by decide) (hc : cc' ≤ R.cells := by decide) (hs : ss' ≤ R.slots := by decide) (hc' : cc + rm.cells = cc' := by rfl) (hs' : ss + rm.slots = ss' := by rfl) (hsz : ls.size = maxL := by rfl) (hp : pc + 3 = pc' := by rfl) :
    W l Z R K Q h cc ss pc ls st := by
  subst hst hc' hs' hp
  intro T L X N e
  obtain ⟨cq, kq, qa, qb, qc⟩ := isOf (T := T) ok.2.1 e E
  obtain ⟨v, _, ⟨T', L', k', n'⟩, -, X', ⟨Lc, hQ, l1, l2, l3⟩, stp⟩ := X.virtualBack ok.1 (y := z) (z := z') ok.2.2.2.2.1 (mvT ok.2.1 (tb _ (List.mem_of_getElem? w1))) (mvT ok.2.1 (tb _ (List.mem_of_getElem? w2))) nf (mvT ok.2.1 (tb _ (List.mem_of_getElem? w3))) (mvT ok.2.1 (tb _ (List.mem_of_getElem? w4))) hm
    (backOf (W := wgt) (Q := fun v h L => Q' v h ∧ Fr Z.heap.size L) (con []) ok.2.1 (tb _ (List.mem_of_getElem? w5)) (tb _ (List.mem_of_getElem? w6)) hf hl) qa qc (g := mkF K.m pc ls (argsL.reverse ++ .ref a :: rest)) rfl (hsz.trans ok.2.2.2.1.symm) (Steps.refl _) (argsL := argsL) (rest := rest) (lenOf hpd hlen) rfl (by simpa using hW) (hb ok.2.2.1 hd) (fun _ _ => ⟨rfl, e, hc, hs⟩)
  dsimp only [Pt.U, Pt.locs, Pt.cells, Pt.slots] at X' l1 l2 l3 stp hQ
  subst l1 l2 l3
  exact Ends.step (fun t k => stp.trans k) (H v T'.heap hQ.1 T' _ X' (N.app hQ.2) rfl)
theorem W.callU (ok : Ok Z K y code maxL ret) (tb : Tb Z a0 ts) {idx : Nat} {z z' : MethodName} {C owner : String} {code' : ByteArray} {maxL' : Nat} {ret' : Option FieldType} {rm : Room} {Q' : Option Value → Heap → Prop} {ps : List FieldType} {rt : Option FieldType} {a : Addr} {argsL rest : List Value}
    (i1 i2 i3 i4 i5 i6 i7 : Nat) (w1 : ts[i1]? = some (.methodLink y.cls idx z)) (w2 : ts[i2]? = some (.declares ⟨owner, z.name, z.desc⟩)) (w3 : ts[i3]? = some (.selects C z z')) (w4 : ts[i4]? = some (.instanceMethod z')) (w5 : ts[i5]? = some (.code z' code' maxL' ret')) (w6 : ts[i6]? = some (.initialized z'.cls)) (w7 : ts[i7]? = some (.sameMethod z.cls owner z.name z.desc))
    (E : Exa Z h a C)
    (hd : decode code pc = .ok (.invokevirtual idx, 3)) (hpd : parseMethodDescriptor z.desc = some ⟨ps, rt⟩) (con : Con l Z z' code' maxL' ret' rm (.ref a :: argsL).toArray h Q') (wgt cc' ss' pc' : Nat)
    (H : ∀ v h', Q' v h' → W l Z R K Q h' cc' ss' pc' ls (v.toList ++ rest))
    (hm : owner ≠ "java/lang/invoke/MethodHandle" ∧ owner ≠ "java/lang/invoke/VarHandle" := by decide) (hlen : argsL.length = ps.length := by rfl) (hst : st = argsL.reverse ++ .ref a :: rest := by rfl) (hW : (rest.map fun v => v.category).sum ≤ wgt := by exact Nat.le_refl _)
    (hf : rm.frames + 1 ≤ R.frames := by decide) (hl : wgt + (maxL' + 11) + rm.locals ≤ R.locals := by decide) (hc : cc' ≤ R.cells := by decide) (hs : ss' ≤ R.slots := by decide) (hc' : cc + rm.cells = cc' := by rfl) (hs' : ss + rm.slots = ss' := by rfl) (hsz : ls.size = maxL := by rfl) (hp : pc + 3 = pc' := by rfl) :
    W l Z R K Q h cc ss pc ls st := by
  subst hst hc' hs' hp
  intro T L X N e
  obtain ⟨cq, kq, qa, qb, qc⟩ := isOf (T := T) ok.2.1 e E
  obtain ⟨v, _, ⟨T', L', k', n'⟩, -, X', ⟨Lc, hQ, l1, l2, l3⟩, stp⟩ := X.virtualBackUp ok.1 (x := z) (y := z') (owner := owner) ok.2.2.2.2.1 (mvT ok.2.1 (tb _ (List.mem_of_getElem? w1))) (mvT ok.2.1 (tb _ (List.mem_of_getElem? w7))) (mvT ok.2.1 (tb _ (List.mem_of_getElem? w2))) hm (mvT ok.2.1 (tb _ (List.mem_of_getElem? w3))) (mvT ok.2.1 (tb _ (List.mem_of_getElem? w4)))
    (backOf (W := wgt) (Q := fun v h L => Q' v h ∧ Fr Z.heap.size L) (con []) ok.2.1 (tb _ (List.mem_of_getElem? w5)) (tb _ (List.mem_of_getElem? w6)) hf hl) qa qc (g := mkF K.m pc ls (argsL.reverse ++ .ref a :: rest)) rfl (hsz.trans ok.2.2.2.1.symm) (Steps.refl _) (argsL := argsL) (rest := rest) (lenOf hpd hlen) rfl (by simpa using hW) (hb ok.2.2.1 hd) (fun _ _ => ⟨rfl, e, hc, hs⟩)
  dsimp only [Pt.U, Pt.locs, Pt.cells, Pt.slots] at X' l1 l2 l3 stp hQ
  subst l1 l2 l3
  exact Ends.step (fun t k => stp.trans k) (H v T'.heap hQ.1 T' _ X' (N.app hQ.2) rfl)
theorem W.callP (ok : Ok Z K y code maxL ret) (tb : Tb Z a0 ts) {idx : Nat} {z : MethodName} {code' : ByteArray} {maxL' : Nat} {ret' : Option FieldType} {rm : Room} {Q' : Option Value → Heap → Prop} {ps : List FieldType} {rt : Option FieldType} {a : Addr} {C : String} {argsL rest : List Value}
    (i1 i2 i3 i4 i5 i6 : Nat) (w1 : ts[i1]? = some (.methodLink y.cls idx z)) (w2 : ts[i2]? = some (.instanceMethod z)) (w3 : ts[i3]? = some (.selects z.cls z z)) (w4 : ts[i4]? = some (.privateMethod z)) (w5 : ts[i5]? = some (.code z code' maxL' ret')) (w6 : ts[i6]? = some (.initialized z.cls))
    (E : Exa Z h a C)
    (hd : decode code pc = .ok (.invokevirtual idx, 3)) (hpd : parseMethodDescriptor z.desc = some ⟨ps, rt⟩) (con : Con l Z z code' maxL' ret' rm (.ref a :: argsL).toArray h Q') (wgt cc' ss' pc' : Nat)
    (H : ∀ v h', Q' v h' → W l Z R K Q h' cc' ss' pc' ls (v.toList ++ rest))
    (hm : z.cls ≠ "java/lang/invoke/MethodHandle" ∧ z.cls ≠ "java/lang/invoke/VarHandle" := by decide) (hlen : argsL.length = ps.length := by rfl) (hst : st = argsL.reverse ++ .ref a :: rest := by rfl) (hW : (rest.map fun v => v.category).sum ≤ wgt := by exact Nat.le_refl _)
    (hf : rm.frames + 1 ≤ R.frames := by decide) (hl : wgt + (maxL' + 11) + rm.locals ≤ R.locals := by decide) (hc : cc' ≤ R.cells := by decide) (hs : ss' ≤ R.slots := by decide) (hc' : cc + rm.cells = cc' := by rfl) (hs' : ss + rm.slots = ss' := by rfl) (hsz : ls.size = maxL := by rfl) (hp : pc + 3 = pc' := by rfl) :
    W l Z R K Q h cc ss pc ls st := by
  subst hst hc' hs' hp
  intro T L X N e
  obtain ⟨cq, q1, q2⟩ := E.cell
  obtain ⟨v, _, ⟨T', L', k', n'⟩, -, X', ⟨Lc, hQ, l1, l2, l3⟩, stp⟩ := X.privateBack ok.1 (y := z) ok.2.2.2.2.1 (mvT ok.2.1 (tb _ (List.mem_of_getElem? w1))) (mvT ok.2.1 (tb _ (List.mem_of_getElem? w2))) (mvT ok.2.1 (tb _ (List.mem_of_getElem? w3))) (Cond.privateMethod_at (mvP ok.2.1 (tb _ (List.mem_of_getElem? w4)) (args := #[]))) (mvT ok.2.1 (tb _ (List.mem_of_getElem? w5))) hm
    (backOf (W := wgt) (Q := fun v h L => Q' v h ∧ Fr Z.heap.size L) (con []) ok.2.1 (tb _ (List.mem_of_getElem? w5)) (tb _ (List.mem_of_getElem? w6)) hf hl) (g := mkF K.m pc ls (argsL.reverse ++ .ref a :: rest)) rfl (hsz.trans ok.2.2.2.1.symm) (Steps.refl _) (a := a) (by rw [e]; exact q1) q2 (argsL := argsL) (rest := rest) (lenOf hpd hlen) rfl (by simpa using hW) (hb ok.2.2.1 hd) (fun _ _ => ⟨rfl, e, hc, hs⟩)
  dsimp only [Pt.U, Pt.locs, Pt.cells, Pt.slots] at X' l1 l2 l3 stp hQ
  subst l1 l2 l3
  exact Ends.step (fun t k => stp.trans k) (H v T'.heap hQ.1 T' _ X' (N.app hQ.2) rfl)
theorem W.callF (ok : Ok Z K y code maxL ret) (tb : Tb Z a0 ts) {idx cnt : Nat} {z z' : MethodName} {C : String} {code' : ByteArray} {maxL' : Nat} {ret' : Option FieldType} {rm : Room} {Q' : Option Value → Heap → Prop} {ps : List FieldType} {rt : Option FieldType} {a : Addr} {argsL rest : List Value}
    (i1 i2 i3 i4 i5 i6 i7 i8 i9 : Nat) (w1 : ts[i1]? = some (.methodLink y.cls idx z)) (w2 : ts[i2]? = some (.declares z)) (w3 : ts[i3]? = some (.selects C z z')) (w4 : ts[i4]? = some (.instanceMethod z')) (w5 : ts[i5]? = some (.code z' code' maxL' ret')) (w6 : ts[i6]? = some (.initialized z'.cls))
    (w7 : ts[i7]? = some (.interfaceMethod z.cls z.cls z.name z.desc)) (w8 : ts[i8]? = some (.publicMethod z')) (w9 : ts[i9]? = some (.unhidden C z.name z.desc)) (i10 : Nat) (w10 : ts[i10]? = some (.castable C z.cls))
    (E : Exa Z h a C)
    (hd : decode code pc = .ok (.invokeinterface idx cnt, 5)) (hpd : parseMethodDescriptor z.desc = some ⟨ps, rt⟩) (con : Con l Z z' code' maxL' ret' rm (.ref a :: argsL).toArray h Q') (wgt cc' ss' pc' : Nat)
    (H : ∀ v h', Q' v h' → W l Z R K Q h' cc' ss' pc' ls (v.toList ++ rest))
    (hq : ((Jvm.Cond.interfaceMethod z.cls z.cls z.name z.desc).onTables && (Jvm.Cond.interfaceMethod z.cls z.cls z.name z.desc).keepsFace) = true := by rfl) (hm : z.cls ≠ "java/lang/invoke/MethodHandle" ∧ z.cls ≠ "java/lang/invoke/VarHandle" := by decide) (hlen : argsL.length = ps.length := by rfl) (hst : st = argsL.reverse ++ .ref a :: rest := by rfl) (hW : (rest.map fun v => v.category).sum ≤ wgt := by exact Nat.le_refl _)
    (hf : rm.frames + 1 ≤ R.frames := by decide) (hl : wgt + (maxL' + 11) + rm.locals ≤ R.locals := by decide) (hc : cc' ≤ R.cells := by decide) (hs : ss' ≤ R.slots := by decide) (hc' : cc + rm.cells = cc' := by rfl) (hs' : ss + rm.slots = ss' := by rfl) (hsz : ls.size = maxL := by rfl) (hp : pc + 5 = pc' := by rfl) :
    W l Z R K Q h cc ss pc ls st := by
  subst hst hc' hs' hp
  intro T L X N e
  obtain ⟨cq, kq, qa, qb, qc⟩ := isOf (T := T) ok.2.1 e E
  obtain ⟨v, _, ⟨T', L', k', n'⟩, -, X', ⟨Lc, hQ, l1, l2, l3⟩, stp⟩ := X.interfaceBack ok.1 (xi := z) (y := z') ok.2.2.2.2.1 (mvT ok.2.1 (tb _ (List.mem_of_getElem? w1))) (mvT ok.2.1 (tb _ (List.mem_of_getElem? w2))) (mvT ok.2.1 (tb _ (List.mem_of_getElem? w7)) hq) (mvT ok.2.1 (tb _ (List.mem_of_getElem? w3))) (mvT ok.2.1 (tb _ (List.mem_of_getElem? w4))) (mvT ok.2.1 (tb _ (List.mem_of_getElem? w8))) (mvT ok.2.1 (tb _ (List.mem_of_getElem? w9))) (mvT ok.2.1 (tb _ (List.mem_of_getElem? w10))) hm
    (backOf (W := wgt) (Q := fun v h L => Q' v h ∧ Fr Z.heap.size L) (con []) ok.2.1 (tb _ (List.mem_of_getElem? w5)) (tb _ (List.mem_of_getElem? w6)) hf hl) qa qb qc (g := mkF K.m pc ls (argsL.reverse ++ .ref a :: rest)) rfl (hsz.trans ok.2.2.2.1.symm) (Steps.refl _) (argsL := argsL) (rest := rest) (lenOf hpd hlen) rfl (by simpa using hW) (hb ok.2.2.1 hd) (fun _ _ => ⟨rfl, e, hc, hs⟩)
  dsimp only [Pt.U, Pt.locs, Pt.cells, Pt.slots] at X' l1 l2 l3 stp hQ
  subst l1 l2 l3
  exact Ends.step (fun t k => stp.trans k) (H v T'.heap hQ.1 T' _ X' (N.app hQ.2) rfl)
/-! the heap in pieces: objects (class, fields) and arrays (kind, class, values) made by this run; all that stood at the start stands -/
abbrev Fl : Type := String × String × String × Value
abbrev Pc : Type := (String × List Fl) ⊕ (FieldType × ClassId × List Value)
def Ch (Z : State) (h : Heap) (a : Addr) : Pc → Prop
  | .inl q => Exa Z h a q.1 ∧ ∀ f ∈ q.2, Fld Z h a f.1 f.2.1 f.2.2.1 f.2.2.2
  | .inr q => ∃ c : Cell, Arr Z h a c q.1 ∧ c.cls = q.2.1 ∧ c.slots.toList = q.2.2
def HS (Z : State) (h : Heap) (cs : List (Addr × Pc)) : Prop := Ext Z.heap h ∧ (∀ q ∈ cs, Z.heap.size ≤ q.1 ∧ Ch Z h q.1 q.2) ∧ (cs.map (fun q => q.1)).Nodup
def Lay (Z : State) (fs : List Fl) : Prop := (fs.map fun f => Jvm.RoadKit.slotOf Z f.1 f.2.1 f.2.2.1).Nodup
/-- a new object's fields -/
def Nw (Z : State) (a0 : Array Value) (C : String) (fs : List Fl) : Prop := ∀ f ∈ fs, Laid Z a0 C f.1 f.2.1 f.2.2.1 ∧ ∃ ty, parseFieldDescriptor f.2.2.1 = some ty ∧ defaultValue ty = f.2.2.2
theorem Nw.nil {C : String} : Nw Z a0 C [] := fun _ q => nomatch q
theorem Nw.cons {C O n d : String} {v : Value} {fs : List Fl} (L : Laid Z a0 C O n d) {ty : FieldType} (h1 : parseFieldDescriptor d = some ty) (h2 : defaultValue ty = v) (r : Nw Z a0 C fs) : Nw Z a0 C ((O, n, d, v) :: fs) := fun f hf => by
  rcases List.mem_cons.mp hf with rfl | hf
  · exact ⟨L, ty, h1, h2⟩
  · exact r f hf
theorem Lay.of {C : String} {fs fs0 : List Fl} (nw : Nw Z a0 C fs0) (he : fs.map (fun f => (f.1, f.2.1, f.2.2.1)) = fs0.map (fun f => (f.1, f.2.1, f.2.2.1))) (hn : (fs0.map (fun f => f.2.1)).Nodup := by decide) : Lay Z fs := by
  have e : fs.map (fun f => Jvm.RoadKit.slotOf Z f.1 f.2.1 f.2.2.1) = fs0.map (fun f => Jvm.RoadKit.slotOf Z f.1 f.2.1 f.2.2.1) := by
    have q := congrArg (List.map fun g : String × String × String => Jvm.RoadKit.slotOf Z g.1 g.2.1 g.2.2) he
    simp only [List.map_map] at q
    exact q
  unfold Lay
  rw [e]
  clear e he
  induction fs0 with
  | nil => exact List.nodup_nil
  | cons f fs0 ih =>
    rw [List.map_cons, List.nodup_cons] at hn ⊢
    refine ⟨fun hm => ?_, ih (fun g hg => nw g (List.mem_cons_of_mem _ hg)) hn.2⟩
    obtain ⟨g, hg, eg⟩ := List.mem_map.mp hm
    obtain ⟨L1, t1, p1, -⟩ := nw f (List.mem_cons_self ..)
    obtain ⟨L2, t2, p2, -⟩ := nw g (List.mem_cons_of_mem _ hg)
    exact slot_ne L1 L2 (fun q => hn.1 (List.mem_map.mpr ⟨g, hg, q.symm⟩)) p1 p2 eg.symm
theorem cat_of {v : Value} (h : v.isRef = true) : v.category = 1 := by
  rcases ref_cases h with rfl | ⟨_, rfl⟩ <;> rfl
/-! from the words of a case -/
theorem st_ref {args : Array Value} {C n d k : String} (w : (Jvm.Cond.exactly (.static C n d) k).value args Z none Z [] = some true) (hi : (Jvm.Cond.initializedFor C n d).before args Z = true ∨ ((Jvm.Cond.initialized C).before args Z = true ∧ (Jvm.Cond.laysStatic C n d).before args Z = true)) :
    ∃ a, (Term.static C n d).eval args Z none [] Z = some (.ref a) ∧ Sta Z Z.heap C n d (.ref a) ∧ Exa Z Z.heap a k := by
  obtain ⟨x, e⟩ := exa_v w
  exact ⟨x, e, Sta.start e hi, Exa.start e w⟩
theorem fl_of {args : Array Value} {t : Term} {a : Addr} {C n d : String} {i : Int32} (e : t.eval args Z none [] Z = some (.ref a)) (w : (Jvm.Cond.eq (.field t C n d) (.int i)).value args Z none Z [] = some true) : Fld Z Z.heap a C n d (.int i) := by
  have e2 := fld_at (C := C) (n := n) (dd := d) e
  refine Fld.start ?_
  cases hq : Z.fieldOf? a C n d with
  | none => rw [hq] at e2; simp [Cond.value, e2] at w
  | some v =>
    rw [hq] at e2
    cases v <;> simp [Cond.value, e2, Term.int_eval] at w
    rw [w]
variable {cs : List (Addr × Pc)} {h' : Heap} {a : Addr} {sl : Nat} {v : Value}
theorem Ch.lt {b : Pc} (F : Ch Z h a b) : a < h.size := by
  rcases b with q | q
  · exact F.1.lt
  · obtain ⟨c, A, -⟩ := F; exact A.lt
theorem Ch.ext {b : Pc} (E : Ext h h') (F : Ch Z h a b) : Ch Z h' a b := by
  rcases b with q | q
  · exact ⟨F.1.ext E, fun f hf => (F.2 f hf).ext E⟩
  · obtain ⟨c, A, r⟩ := F; exact ⟨c, A.ext E, r⟩
theorem Ch.other {b : Pc} {x : Addr} (W : Wr h h' x sl v) (ne : a ≠ x) (F : Ch Z h a b) : Ch Z h' a b := by
  rcases b with q | q
  · exact ⟨F.1.wr W, fun f hf => (F.2 f hf).other W (Or.inl ne)⟩
  · obtain ⟨c, A, r⟩ := F; exact ⟨c, A.other W ne, r⟩
theorem HS.nil (Z : State) : HS Z Z.heap [] := ⟨⟨Nat.le_refl _, fun _ _ q => q⟩, fun _ q => (by cases q), List.nodup_nil⟩
theorem HS.at (H : HS Z h cs) {i : Nat} {b : Pc} (hi : cs[i]? = some (a, b)) : Z.heap.size ≤ a ∧ Ch Z h a b := H.2.1 _ (List.mem_of_getElem? hi)
theorem HS.exa (H : HS Z h cs) {i : Nat} {C : String} {fs : List Fl} (hi : cs[i]? = some (a, .inl (C, fs))) : Exa Z h a C := (H.at hi).2.1
theorem HS.fld (H : HS Z h cs) {i j : Nat} {C : String} {fs : List Fl} {O n d : String} (hi : cs[i]? = some (a, .inl (C, fs))) (hj : fs[j]? = some (O, n, d, v)) : Fld Z h a O n d v := (H.at hi).2.2 _ (List.mem_of_getElem? hj)
theorem HS.add (H : HS Z h cs) (E : Ext h h') {b : Pc} (F : Ch Z h' h.size b) : HS Z h' ((h.size, b) :: cs) := by
  refine ⟨⟨Nat.le_trans H.1.1 E.1, fun x c q => E.2 x c (H.1.2 x c q)⟩, fun q hq => ?_, ?_⟩
  · rcases List.mem_cons.mp hq with rfl | hq
    · exact ⟨H.1.1, F⟩
    · exact ⟨(H.2.1 q hq).1, (H.2.1 q hq).2.ext E⟩
  · refine List.nodup_cons.mpr ⟨fun hm => ?_, H.2.2⟩
    obtain ⟨q, hq, e⟩ := List.mem_map.mp hm
    have := (H.2.1 q hq).2.lt
    rw [e] at this
    exact Nat.lt_irrefl _ this
theorem nodup_set {α : Type} {L : List α} (h : L.Nodup) : ∀ {i j : Nat} {x : α}, L[i]? = some x → L[j]? = some x → i = j := fun {i j x} hi hj => (List.getElem?_inj (List.getElem?_eq_some_iff.mp hi).1 h).mp (hi.trans hj.symm)
theorem HS.set (H : HS Z h cs) {i : Nat} {b b' : Pc} (hi : cs[i]? = some (a, b)) (Wq : Wr h h' a sl v) (F : Ch Z h' a b') : HS Z h' (cs.set i (a, b')) := by
  have g := H.at hi
  refine ⟨⟨by rw [Wq.size]; exact H.1.1, fun x c q => ?_⟩, fun q hq => ?_, ?_⟩
  · obtain ⟨c', e1, -, -, -, e5, -⟩ := wr_at Wq (H.1.2 x c q)
    have ne : x ≠ a := fun e => by subst e; exact absurd (Array.getElem?_eq_some_iff.mp q).1 (Nat.not_lt.mpr g.1)
    rw [e5 ne] at e1; exact e1
  · obtain ⟨j, hj⟩ := List.mem_iff_getElem?.mp hq
    rw [List.getElem?_set] at hj
    split at hj
    · split at hj
      · cases hj; exact ⟨g.1, F⟩
      · cases hj
    · rename_i ne
      have m := H.2.1 q (List.mem_of_getElem? hj)
      refine ⟨m.1, m.2.other Wq fun e => ne ?_⟩
      refine nodup_set H.2.2 (x := a) (by simp [hi]) (by simp [hj, e])
  · have : ((cs.set i (a, b')).map fun q => q.1) = cs.map fun q => q.1 := by
      rw [List.map_set]
      refine List.ext_getElem? fun j => ?_
      rw [List.getElem?_set]
      split
      · rename_i e; subst e
        simp [hi]
        exact (List.getElem?_eq_some_iff.mp hi).1
      · rfl
    rw [this]; exact H.2.2
theorem HS.pull (H : HS Z h cs) (i : Nat) {q : Addr × Pc} (cs' : List (Addr × Pc)) (hi : cs[i]? = some q) (e : q :: cs.eraseIdx i = cs') : HS Z h cs' := by
  subst e
  obtain ⟨hlt, rfl⟩ := List.getElem?_eq_some_iff.mp hi
  have pm : (cs[i] :: cs.eraseIdx i).Perm cs := by
    rw [List.eraseIdx_eq_take_drop_succ]
    have e := List.take_append_drop i cs
    rw [List.drop_eq_getElem_cons hlt] at e
    exact List.perm_middle.symm.trans (List.Perm.of_eq e)
  exact ⟨H.1, fun q hq => H.2.1 q (pm.mem_iff.mp hq), (pm.map _).nodup_iff.mpr H.2.2⟩
theorem HS.drop (H : HS Z h cs) {cs' : List (Addr × Pc)} (s : cs'.Sublist cs) : HS Z h cs' := ⟨H.1, fun q hq => H.2.1 q (s.mem hq), H.2.2.sublist (s.map _)⟩
theorem HS.sta (H : HS Z h cs) {O n d : String} (S : Sta Z Z.heap O n d v) : Sta Z h O n d v := S.ext H.1
theorem HS.ne (H : HS Z h cs) {i j : Nat} {x : Addr} {b b' : Pc} (hi : cs[i]? = some (a, b)) (hj : cs[j]? = some (x, b')) (n : i ≠ j) : a ≠ x := fun e => n (nodup_set H.2.2 (x := a) (by simp [hi]) (by simp [hj, e]))
theorem HS.ne_old (H : HS Z h cs) {i : Nat} {x : Addr} {b : Pc} (hi : cs[i]? = some (a, b)) (hx : x < Z.heap.size) : a ≠ x := fun e => by subst e; exact absurd hx (Nat.not_lt.mpr (H.at hi).1)
theorem Ch.put {C O n d : String} {fs : List Fl} {j : Nat} {w : Value} (F : Ch Z h a (.inl (C, fs))) (hj : fs[j]? = some (O, n, d, w)) (lay : Lay Z fs) (Wq : Wr h h' a (Jvm.RoadKit.slotOf Z O n d) v) : Ch Z h' a (.inl (C, fs.set j (O, n, d, v))) := by
  refine ⟨F.1.wr Wq, fun f hf => ?_⟩
  obtain ⟨k, hk⟩ := List.mem_iff_getElem?.mp hf
  rw [List.getElem?_set] at hk
  split at hk
  · split at hk
    · cases hk; exact (F.2 _ (List.mem_of_getElem? hj)).same Wq
    · cases hk
  · rename_i ne
    refine (F.2 _ (List.mem_of_getElem? hk)).other Wq (Or.inr fun e => ne ?_)
    exact nodup_set lay (x := Jvm.RoadKit.slotOf Z O n d) (by simp [hj]) (by simp [hk, e])
theorem W.getF (ok : Ok Z K y code maxL ret) (tb : Tb Z a0 ts) {idx : Nat} {R0 O n d : String} (i1 : Nat) (w1 : ts[i1]? = some (.fieldLink y.cls idx R0 n d)) (via : Via Z R0 O n d) (F : Fld Z h a O n d v) (hd : decode code pc = .ok (.getfield idx, 3)) (pc' : Nat) (G : W l Z R K Q h cc ss pc' ls (v :: st)) (hp : pc + 3 = pc' := by rfl) :
    W l Z R K Q h cc ss pc ls (.ref a :: st) := by
  subst hp
  intro T L X N e
  obtain ⟨T', X', e', stp⟩ := Jvm.RoadKit.getF X ok.1 ok.2.1 ok.2.2.2.2.1 (host := "") (Or.inl (tb _ (List.mem_of_getElem? w1))) via e F (g := mkF K.m pc ls (.ref a :: st)) rfl rfl (hb ok.2.2.1 hd)
  exact Ends.step stp (G T' _ X' N e')
theorem W.getFN (ok : Ok Z K y code maxL ret) (tb : Tb Z a0 ts) {idx : Nat} {R0 O n d host : String} (i1 : Nat) (w1 : ts[i1]? = some (.fieldLinkNest y.cls idx R0 n d host)) (via : Via Z R0 O n d) (F : Fld Z h a O n d v) (hd : decode code pc = .ok (.getfield idx, 3)) (pc' : Nat) (G : W l Z R K Q h cc ss pc' ls (v :: st)) (hp : pc + 3 = pc' := by rfl) :
    W l Z R K Q h cc ss pc ls (.ref a :: st) := by
  subst hp
  intro T L X N e
  obtain ⟨T', X', e', stp⟩ := Jvm.RoadKit.getF X ok.1 ok.2.1 ok.2.2.2.2.1 (Or.inr (tb _ (List.mem_of_getElem? w1))) via e F (g := mkF K.m pc ls (.ref a :: st)) rfl rfl (hb ok.2.2.1 hd)
  exact Ends.step stp (G T' _ X' N e')
theorem W.getS (ok : Ok Z K y code maxL ret) (tb : Tb Z a0 ts) {idx : Nat} {R0 O n d : String} (i1 : Nat) (w1 : ts[i1]? = some (.fieldLink y.cls idx R0 n d)) (via : Via Z R0 O n d) (S : Sta Z h O n d v) (hd : decode code pc = .ok (.getstatic idx, 3)) (pc' : Nat) (G : W l Z R K Q h cc ss pc' ls (v :: st)) (hp : pc + 3 = pc' := by rfl) :
    W l Z R K Q h cc ss pc ls st := by
  subst hp
  intro T L X N e
  obtain ⟨T', X', e', stp⟩ := Jvm.RoadKit.getS X ok.1 ok.2.1 ok.2.2.2.2.1 (host := "") (tb _ (List.mem_of_getElem? w1)) via e S (g := mkF K.m pc ls st) rfl (hb ok.2.2.1 hd)
  exact Ends.step stp (G T' _ X' N e')
theorem W.getSN (ok : Ok Z K y code maxL ret) (tb : Tb Z a0 ts) {idx : Nat} {R0 O n d host : String} (i1 : Nat) (w1 : ts[i1]? = some (.fieldLinkNest y.cls idx R0 n d host)) (via : Via Z R0 O n d) (S : Sta Z h O n d v) (hd : decode code pc = .ok (.getstatic idx, 3)) (pc' : Nat) (G : W l Z R K Q h cc ss pc' ls (v :: st)) (hp : pc + 3 = pc' := by rfl) :
    W l Z R K Q h cc ss pc ls st := by
  subst hp
  intro T L X N e
  obtain ⟨T', X', e', stp⟩ := Jvm.RoadKit.getS2 X ok.1 ok.2.1 ok.2.2.2.2.1 (Or.inr (tb _ (List.mem_of_getElem? w1))) via e S (g := mkF K.m pc ls st) rfl (hb ok.2.2.1 hd)
  exact Ends.step stp (G T' _ X' N e')
/-- putfield into a piece; Lq: 'lays', or 'laysFinal' in a constructor -/
theorem W.putF (ok : Ok Z K y code maxL ret) (tb : Tb Z a0 ts) (H : HS Z h cs) {idx i j kk : Nat} {R0 C O n d : String} {fs : List Fl} {w0 w' : Value} {ty : FieldType} (hi : cs[i]? = some (a, .inl (C, fs))) (hj : fs[j]? = some (O, n, d, w0))
    (i1 i2 : Nat) (w1 : ts[i1]? = some (.fieldLink y.cls idx R0 n d)) (w2 : ts[i2]? = some (.instantiable C kk)) (via : Via Z R0 O n d) (Lq : (Jvm.Cond.lays C O n d).before a0 Z = true ∨ ((Jvm.Cond.laysFinal C O n d).before a0 Z = true ∧ y.cls = O ∧ y.name = "<init>")) (lay : Lay Z fs)
    (hty : parseFieldDescriptor d = some ty) (hn : narrow ty v = w') (hf : fits ty w' = true) (hd : decode code pc = .ok (.putfield idx, 3)) (pc' : Nat) (cs' : List (Addr × Pc)) (hcs : cs.set i (a, .inl (C, fs.set j (O, n, d, w'))) = cs') (G : ∀ h', HS Z h' cs' → W l Z R K Q h' cc ss pc' ls st) (hp : pc + 3 = pc' := by rfl) :
    W l Z R K Q h cc ss pc ls (v :: .ref a :: st) := by
  subst hp hcs
  intro T L X N e
  have g := H.at hi
  obtain ⟨T', h', X', e', W', stp⟩ := Jvm.RoadKit.putFN X ok.1 ok.2.1 ok.2.2.2.2.1 (tb _ (List.mem_of_getElem? w1)) via e (H.fld hi hj) (H.exa hi) (Lq.imp id fun q => ⟨q.1, q.2.1, ok.2.2.2.2.2.2.1.trans q.2.2⟩) (tb _ (List.mem_of_getElem? w2)) hty hn hf (g := mkF K.m pc ls (v :: .ref a :: st)) rfl rfl (hb ok.2.2.1 hd)
  exact Ends.step stp (G h' (H.set hi W' (g.2.put hj lay W')) T' _ X' (Fr.snoc X' N g.1) e')
theorem W.new (ok : Ok Z K y code maxL ret) (tb : Tb Z a0 ts) (H : HS Z h cs) {idx n : Nat} {C : String} (i1 i2 i3 : Nat) (w1 : ts[i1]? = some (.classLink y.cls idx C)) (w2 : ts[i2]? = some (.instantiable C n)) (w3 : ts[i3]? = some (.initialized C)) {fs : List Fl} (nw : Nw Z a0 C fs)
    (hd : decode code pc = .ok (.new idx, 3)) (cc' ss' pc' : Nat) (G : ∀ a h', HS Z h' ((a, .inl (C, fs)) :: cs) → W l Z R K Q h' cc' ss' pc' ls (.ref a :: st)) (hc : cc' ≤ R.cells := by decide) (hs : ss' ≤ R.slots := by decide) (hc' : cc + 1 = cc' := by rfl) (hs' : ss + n = ss' := by rfl) (hp : pc + 3 = pc' := by rfl) :
    W l Z R K Q h cc ss pc ls st := by
  subst hp hc' hs'
  intro T L X N e
  obtain ⟨T', h', X', e', E', A', D', -, stp⟩ := Jvm.RoadKit.newO X ok.1 ok.2.1 ok.2.2.2.2.1 (tb _ (List.mem_of_getElem? w1)) (tb _ (List.mem_of_getElem? w2)) (tb _ (List.mem_of_getElem? w3)) e (g := mkF K.m pc ls st) rfl (hb ok.2.2.1 hd) hc hs
  refine Ends.step stp (G h.size h' (H.add E' ⟨A', fun f hf => ?_⟩) T' _ X' N e')
  obtain ⟨L1, ty, t1, t2⟩ := nw f hf
  have q := D' L1 t1
  rw [t2] at q
  exact q
theorem len_eq {c : Cell} {vs : List Value} (e : c.slots.toList = vs) : c.slots.size = vs.length := by rw [← e]; simp
theorem at_eq {c : Cell} {vs : List Value} (e : c.slots.toList = vs) (k : Nat) : c.slots[k]? = vs[k]? := by rw [← e]; simp
theorem in_of {c : Cell} {vs : List Value} {j : Int32} (e : c.slots.toList = vs) (hj : ¬ j < 0) (hv : j.toNatClampNeg < vs.length) : ¬ (j < 0 ∨ c.slots.size ≤ j.toNatClampNeg) := by
  rw [len_eq e]; exact fun q => q.elim hj (by omega)
theorem lt_of_at {vs : List Value} {k : Nat} (hv : vs[k]? = some v) : k < vs.length := (List.getElem?_eq_some_iff.mp hv).1
theorem W.newP (ok : Ok Z K y code maxL ret) (tb : Tb Z a0 ts) (H : HS Z h cs) {aty : ArrayType} {n : Int32} (i1 : Nat) (w1 : ts[i1]? = some (.arrayClass (newarray.typeOf aty))) (hd : decode code pc = .ok (.newarray aty, 2)) (cap : Nat) (vs : List Value) (hvs : List.replicate n.toNatClampNeg (defaultValue (newarray.typeOf aty)) = vs) (cc' ss' pc' : Nat)
    (hn : ¬ n < 0) (hcap : n.toNatClampNeg ≤ cap) (G : ∀ a k h', HS Z h' ((a, .inr (newarray.typeOf aty, k, vs)) :: cs) → W l Z R K Q h' cc' ss' pc' ls (.ref a :: st))
    (hb' : cap * 8 ≤ 536870912 := by decide) (hc : cc' ≤ R.cells := by decide) (hs : ss' ≤ R.slots := by decide) (hc' : cc + 1 = cc' := by rfl) (hs' : ss + cap = ss' := by rfl) (hp : pc + 2 = pc' := by rfl) :
    W l Z R K Q h cc ss pc ls (.int n :: st) := by
  subst hp hc' hs' hvs
  intro T L X N e
  obtain ⟨T', h', k, X', e', E', A', stp⟩ := Jvm.RoadKit.newP X ok.1 ok.2.1 (tb _ (List.mem_of_getElem? w1)) e (g := mkF K.m pc ls (.int n :: st)) rfl (hb ok.2.2.1 hd) rfl hn hcap hb' hc hs
  exact Ends.step stp (G h.size k h' (H.add E' ⟨_, A', rfl, by simp [newA]⟩) T' _ X' N e')
theorem W.newR (ok : Ok Z K y code maxL ret) (tb : Tb Z a0 ts) (H : HS Z h cs) {idx : Nat} {C : String} {n : Int32} (i1 i2 : Nat) (w1 : ts[i1]? = some (.classLink y.cls idx C)) (w2 : ts[i2]? = some (.arrayOver (.object C))) (hd : decode code pc = .ok (.anewarray idx, 3)) (cap : Nat) (vs : List Value) (hvs : List.replicate n.toNatClampNeg Value.null = vs) (cc' ss' pc' : Nat)
    (hn : ¬ n < 0) (hcap : n.toNatClampNeg ≤ cap) (G : ∀ a k h', Ovr Z k C → HS Z h' ((a, .inr (.object C, k, vs)) :: cs) → W l Z R K Q h' cc' ss' pc' ls (.ref a :: st))
    (hb' : cap * 8 ≤ 536870912 := by decide) (hc : cc' ≤ R.cells := by decide) (hs : ss' ≤ R.slots := by decide) (hc' : cc + 1 = cc' := by rfl) (hs' : ss + cap = ss' := by rfl) (hp : pc + 3 = pc' := by rfl) :
    W l Z R K Q h cc ss pc ls (.int n :: st) := by
  subst hp hc' hs' hvs
  intro T L X N e
  obtain ⟨T', h', k, X', e', E', A', O', stp⟩ := Jvm.RoadKit.newR X ok.1 ok.2.1 ok.2.2.2.2.1 (tb _ (List.mem_of_getElem? w1)) (tb _ (List.mem_of_getElem? w2)) e (g := mkF K.m pc ls (.int n :: st)) rfl (hb ok.2.2.1 hd) rfl hn hcap hb' hc hs
  exact Ends.step stp (G h.size k h' O' (H.add E' ⟨_, A', rfl, by simp [newA, defaultValue]⟩) T' _ X' N e')
theorem W.alen (ok : Ok Z K y code maxL ret) (H : HS Z h cs) {i : Nat} {ty : FieldType} {k : ClassId} {vs : List Value} (hi : cs[i]? = some (a, .inr (ty, k, vs))) (hd : decode code pc = .ok (.arraylength, 1)) (pc' : Nat) (n : Int32) (hn : vs.length.toInt32 = n) (G : W l Z R K Q h cc ss pc' ls (.int n :: st)) (hp : pc + 1 = pc' := by rfl) :
    W l Z R K Q h cc ss pc ls (.ref a :: st) := by
  subst hp hn
  intro T L X N e
  obtain ⟨c, A, -, q⟩ := (H.at hi).2
  refine Ends.step (fun t kt => X.arraylength ok.1 (by rw [e]; exact A.1) (State.isArrayOf_alike ok.2.1.alike A.2.1) (g := mkF K.m pc ls (.ref a :: st)) rfl rfl (hb ok.2.2.1 hd) _ ?_) (G T _ X N e)
  rw [len_eq q]; exact kt
theorem W.iald (ok : Ok Z K y code maxL ret) (H : HS Z h cs) {i : Nat} {k : ClassId} {vs : List Value} {j : Int32} (hi : cs[i]? = some (a, .inr (.int, k, vs))) (hj : ¬ j < 0) (hv : vs[j.toNatClampNeg]? = some v) (hd : decode code pc = .ok (.iaload, 1)) (pc' : Nat) (G : W l Z R K Q h cc ss pc' ls (v :: st)) (hp : pc + 1 = pc' := by rfl) :
    W l Z R K Q h cc ss pc ls (.int j :: .ref a :: st) := by
  subst hp
  intro T L X N e
  obtain ⟨c, A, -, q⟩ := (H.at hi).2
  exact Ends.step (fun t kt => X.iaload ok.1 (j := j) (v := v) (by rw [e]; exact A.1) (State.isArrayOf_alike ok.2.1.alike A.2.1) A.2.2 (in_of q hj (lt_of_at hv)) ((at_eq q _).trans hv) (g := mkF K.m pc ls (.int j :: .ref a :: st)) rfl rfl (hb ok.2.2.1 hd) _ kt) (G T _ X N e)
theorem W.cald (ok : Ok Z K y code maxL ret) (H : HS Z h cs) {i : Nat} {k : ClassId} {vs : List Value} {j : Int32} (hi : cs[i]? = some (a, .inr (.char, k, vs))) (hj : ¬ j < 0) (hv : vs[j.toNatClampNeg]? = some v) (hd : decode code pc = .ok (.caload, 1)) (pc' : Nat) (G : W l Z R K Q h cc ss pc' ls (v :: st)) (hp : pc + 1 = pc' := by rfl) :
    W l Z R K Q h cc ss pc ls (.int j :: .ref a :: st) := by
  subst hp
  intro T L X N e
  obtain ⟨c, A, -, q⟩ := (H.at hi).2
  exact Ends.step (fun t kt => X.caload ok.1 (j := j) (v := v) (by rw [e]; exact A.1) (State.isArrayOf_alike ok.2.1.alike A.2.1) A.2.2 (in_of q hj (lt_of_at hv)) ((at_eq q _).trans hv) (g := mkF K.m pc ls (.int j :: .ref a :: st)) rfl rfl (hb ok.2.2.1 hd) _ kt) (G T _ X N e)
theorem W.bald (ok : Ok Z K y code maxL ret) (H : HS Z h cs) {i : Nat} {k : ClassId} {vs : List Value} {j : Int32} (hi : cs[i]? = some (a, .inr (.byte, k, vs))) (hj : ¬ j < 0) (hv : vs[j.toNatClampNeg]? = some v) (hd : decode code pc = .ok (.baload, 1)) (pc' : Nat) (G : W l Z R K Q h cc ss pc' ls (v :: st)) (hp : pc + 1 = pc' := by rfl) :
    W l Z R K Q h cc ss pc ls (.int j :: .ref a :: st) := by
  subst hp
  intro T L X N e
  obtain ⟨c, A, -, q⟩ := (H.at hi).2
  exact Ends.step (fun t kt => X.baloadBytes ok.1 (j := j) (v := v) (by rw [e]; exact A.1) (State.isArrayOf_alike ok.2.1.alike A.2.1) A.2.2 (in_of q hj (lt_of_at hv)) ((at_eq q _).trans hv) (g := mkF K.m pc ls (.int j :: .ref a :: st)) rfl rfl (hb ok.2.2.1 hd) _ kt) (G T _ X N e)
theorem W.zald (ok : Ok Z K y code maxL ret) (H : HS Z h cs) {i : Nat} {k : ClassId} {vs : List Value} {j : Int32} (hi : cs[i]? = some (a, .inr (.boolean, k, vs))) (hj : ¬ j < 0) (hv : vs[j.toNatClampNeg]? = some v) (hd : decode code pc = .ok (.baload, 1)) (pc' : Nat) (G : W l Z R K Q h cc ss pc' ls (v :: st)) (hp : pc + 1 = pc' := by rfl) :
    W l Z R K Q h cc ss pc ls (.int j :: .ref a :: st) := by
  subst hp
  intro T L X N e
  obtain ⟨c, A, -, q⟩ := (H.at hi).2
  exact Ends.step (fun t kt => X.baloadBooleans ok.1 (j := j) (v := v) (by rw [e]; exact A.1) (State.isArrayOf_alike ok.2.1.alike A.2.1) A.2.2 (in_of q hj (lt_of_at hv)) ((at_eq q _).trans hv) (g := mkF K.m pc ls (.int j :: .ref a :: st)) rfl rfl (hb ok.2.2.1 hd) _ kt) (G T _ X N e)
theorem W.aald (ok : Ok Z K y code maxL ret) (H : HS Z h cs) {i : Nat} {ty : FieldType} {k : ClassId} {vs : List Value} {j : Int32} (hi : cs[i]? = some (a, .inr (ty, k, vs))) (hj : ¬ j < 0) (hv : vs[j.toNatClampNeg]? = some v) (hd : decode code pc = .ok (.aaload, 1)) (pc' : Nat) (G : W l Z R K Q h cc ss pc' ls (v :: st)) (hty : ty.isReference = true := by rfl) (hp : pc + 1 = pc' := by rfl) :
    W l Z R K Q h cc ss pc ls (.int j :: .ref a :: st) := by
  subst hp
  intro T L X N e
  obtain ⟨c, A, -, q⟩ := (H.at hi).2
  exact Ends.step (fun t kt => X.aaload ok.1 (j := j) (v := v) (by rw [e]; exact A.1) (State.isArrayOf_alike ok.2.1.alike A.2.1) hty A.2.2 (in_of q hj (lt_of_at hv)) ((at_eq q _).trans hv) (g := mkF K.m pc ls (.int j :: .ref a :: st)) rfl rfl (hb ok.2.2.1 hd) _ kt) (G T _ X N e)
theorem Ch.aput {ty : FieldType} {k : ClassId} {vs : List Value} {n : Nat} {c : Cell} (A : Arr Z h a c ty) (e1 : c.cls = k) (e2 : c.slots.toList = vs) (Wq : Wr h h' a n v) : Ch Z h' a (.inr (ty, k, vs.set n v)) :=
  ⟨_, A.same Wq, e1, by subst e2; simp [Cell.setSlot]⟩
theorem W.iast (ok : Ok Z K y code maxL ret) (H : HS Z h cs) {i : Nat} {k : ClassId} {vs : List Value} {j x : Int32} (hi : cs[i]? = some (a, .inr (.int, k, vs))) (hj : ¬ j < 0) (hv : j.toNatClampNeg < vs.length) (hd : decode code pc = .ok (.iastore, 1)) (pc' : Nat) (cs' : List (Addr × Pc)) (hcs : cs.set i (a, .inr (.int, k, vs.set j.toNatClampNeg (.int x))) = cs') (G : ∀ h', HS Z h' cs' → W l Z R K Q h' cc ss pc' ls st) (hp : pc + 1 = pc' := by rfl) :
    W l Z R K Q h cc ss pc ls (.int x :: .int j :: .ref a :: st) := by
  subst hp hcs
  intro T L X N e
  have g := H.at hi
  obtain ⟨c, A, e1, e2⟩ := g.2
  obtain ⟨T', h', X', e', W', stp⟩ := Jvm.RoadKit.stI X ok.1 ok.2.1 e A (j := j) (in_of e2 hj hv) (g := mkF K.m pc ls (.int x :: .int j :: .ref a :: st)) rfl rfl (hb ok.2.2.1 hd)
  exact Ends.step stp (G h' (H.set hi W' (Ch.aput A e1 e2 W')) T' _ X' (Fr.snoc X' N g.1) e')
theorem W.cast (ok : Ok Z K y code maxL ret) (H : HS Z h cs) {i : Nat} {k : ClassId} {vs : List Value} {j x : Int32} (hi : cs[i]? = some (a, .inr (.char, k, vs))) (hj : ¬ j < 0) (hv : j.toNatClampNeg < vs.length) (w : Int32) (hw : (nar .char x) = w) (hd : decode code pc = .ok (.castore, 1)) (pc' : Nat) (cs' : List (Addr × Pc)) (hcs : cs.set i (a, .inr (.char, k, vs.set j.toNatClampNeg (.int w))) = cs') (G : ∀ h', HS Z h' cs' → W l Z R K Q h' cc ss pc' ls st) (hp : pc + 1 = pc' := by rfl) :
    W l Z R K Q h cc ss pc ls (.int x :: .int j :: .ref a :: st) := by
  subst hp hw hcs
  intro T L X N e
  have g := H.at hi
  obtain ⟨c, A, e1, e2⟩ := g.2
  obtain ⟨T', h', X', e', W', stp⟩ := Jvm.RoadKit.stC X ok.1 ok.2.1 e A (j := j) (in_of e2 hj hv) (g := mkF K.m pc ls (.int x :: .int j :: .ref a :: st)) rfl rfl (hb ok.2.2.1 hd)
  exact Ends.step stp (G h' (H.set hi W' (Ch.aput A e1 e2 W')) T' _ X' (Fr.snoc X' N g.1) e')
theorem W.bast (ok : Ok Z K y code maxL ret) (H : HS Z h cs) {i : Nat} {k : ClassId} {vs : List Value} {j x : Int32} (hi : cs[i]? = some (a, .inr (.byte, k, vs))) (hj : ¬ j < 0) (hv : j.toNatClampNeg < vs.length) (w : Int32) (hw : (nar .byte x) = w) (hd : decode code pc = .ok (.bastore, 1)) (pc' : Nat) (cs' : List (Addr × Pc)) (hcs : cs.set i (a, .inr (.byte, k, vs.set j.toNatClampNeg (.int w))) = cs') (G : ∀ h', HS Z h' cs' → W l Z R K Q h' cc ss pc' ls st) (hp : pc + 1 = pc' := by rfl) :
    W l Z R K Q h cc ss pc ls (.int x :: .int j :: .ref a :: st) := by
  subst hp hw hcs
  intro T L X N e
  have g := H.at hi
  obtain ⟨c, A, e1, e2⟩ := g.2
  obtain ⟨T', h', X', e', W', stp⟩ := Jvm.RoadKit.stB X ok.1 ok.2.1 e A (j := j) (in_of e2 hj hv) (g := mkF K.m pc ls (.int x :: .int j :: .ref a :: st)) rfl rfl (hb ok.2.2.1 hd)
  exact Ends.step stp (G h' (H.set hi W' (Ch.aput A e1 e2 W')) T' _ X' (Fr.snoc X' N g.1) e')
theorem W.zast (ok : Ok Z K y code maxL ret) (H : HS Z h cs) {i : Nat} {k : ClassId} {vs : List Value} {j x : Int32} (hi : cs[i]? = some (a, .inr (.boolean, k, vs))) (hj : ¬ j < 0) (hv : j.toNatClampNeg < vs.length) (w : Int32) (hw : (nar .boolean x) = w) (hd : decode code pc = .ok (.bastore, 1)) (pc' : Nat) (cs' : List (Addr × Pc)) (hcs : cs.set i (a, .inr (.boolean, k, vs.set j.toNatClampNeg (.int w))) = cs') (G : ∀ h', HS Z h' cs' → W l Z R K Q h' cc ss pc' ls st) (hp : pc + 1 = pc' := by rfl) :
    W l Z R K Q h cc ss pc ls (.int x :: .int j :: .ref a :: st) := by
  subst hp hw hcs
  intro T L X N e
  have g := H.at hi
  obtain ⟨c, A, e1, e2⟩ := g.2
  obtain ⟨T', h', X', e', W', stp⟩ := Jvm.RoadKit.stZ X ok.1 ok.2.1 e A (j := j) (in_of e2 hj hv) (g := mkF K.m pc ls (.int x :: .int j :: .ref a :: st)) rfl rfl (hb ok.2.2.1 hd)
  exact Ends.step stp (G h' (H.set hi W' (Ch.aput A e1 e2 W')) T' _ X' (Fr.snoc X' N g.1) e')
theorem W.aast (ok : Ok Z K y code maxL ret) (H : HS Z h cs) {i : Nat} {ty : FieldType} {k : ClassId} {vs : List Value} {j : Int32} (hi : cs[i]? = some (a, .inr (ty, k, vs))) (hj : ¬ j < 0) (hv : j.toNatClampNeg < vs.length) (S : Sto Z h a v) (hd : decode code pc = .ok (.aastore, 1)) (pc' : Nat) (cs' : List (Addr × Pc)) (hcs : cs.set i (a, .inr (ty, k, vs.set j.toNatClampNeg v)) = cs') (G : ∀ h', HS Z h' cs' → W l Z R K Q h' cc ss pc' ls st) (hty : ty.isReference = true := by rfl) (hp : pc + 1 = pc' := by rfl) :
    W l Z R K Q h cc ss pc ls (v :: .int j :: .ref a :: st) := by
  subst hp hcs
  intro T L X N e
  have g := H.at hi
  obtain ⟨c, A, e1, e2⟩ := g.2
  obtain ⟨T', h', X', e', W', stp⟩ := Jvm.RoadKit.stR X ok.1 ok.2.1 e A (j := j) (in_of e2 hj hv) hty S (g := mkF K.m pc ls (v :: .int j :: .ref a :: st)) rfl rfl (hb ok.2.2.1 hd)
  exact Ends.step stp (G h' (H.set hi W' (Ch.aput A e1 e2 W')) T' _ X' (Fr.snoc X' N g.1) e')
theorem HS.sto (H : HS Z h cs) {i : Nat} {ty : FieldType} {k : ClassId} {vs : List Value} {C : String} {x : Addr} (hi : cs[i]? = some (a, .inr (ty, k, vs))) (O : Ovr Z k C) (I : Ins Z h x C true) : Sto Z h a (.ref x) := by
  obtain ⟨c, A, e1, -⟩ := (H.at hi).2
  exact Sto.of A (e1 ▸ O) I
theorem W.castY (ok : Ok Z K y code maxL ret) (tb : Tb Z a0 ts) {idx : Nat} {C : String} (i1 : Nat) (w1 : ts[i1]? = some (.classLink y.cls idx C)) (F : Ins Z h a C true) (hd : decode code pc = .ok (.checkcast idx, 3)) (pc' : Nat) (G : W l Z R K Q h cc ss pc' ls (.ref a :: st)) (hp : pc + 3 = pc' := by rfl) :
    W l Z R K Q h cc ss pc ls (.ref a :: st) := by
  subst hp
  intro T L X N e
  obtain ⟨T', X', e', stp⟩ := Jvm.RoadKit.castY X ok.1 ok.2.1 ok.2.2.2.2.1 (tb _ (List.mem_of_getElem? w1)) e F (g := mkF K.m pc ls (.ref a :: st)) rfl rfl (hb ok.2.2.1 hd)
  exact Ends.step stp (G T' _ X' N e')
theorem W.instY (ok : Ok Z K y code maxL ret) (tb : Tb Z a0 ts) {idx : Nat} {C : String} (i1 : Nat) (w1 : ts[i1]? = some (.classLink y.cls idx C)) (F : Ins Z h a C true) (hd : decode code pc = .ok (.instanceof idx, 3)) (pc' : Nat) (G : W l Z R K Q h cc ss pc' ls (.int 1 :: st)) (hp : pc + 3 = pc' := by rfl) :
    W l Z R K Q h cc ss pc ls (.ref a :: st) := by
  subst hp
  intro T L X N e
  obtain ⟨T', X', e', stp⟩ := Jvm.RoadKit.instY X ok.1 ok.2.1 ok.2.2.2.2.1 (tb _ (List.mem_of_getElem? w1)) e F (g := mkF K.m pc ls (.ref a :: st)) rfl rfl (hb ok.2.2.1 hd)
  exact Ends.step stp (G T' _ X' N e')
theorem W.castN (ok : Ok Z K y code maxL ret) {idx : Nat} (hd : decode code pc = .ok (.checkcast idx, 3)) (pc' : Nat) (G : W l Z R K Q h cc ss pc' ls (.null :: st)) (hp : pc + 3 = pc' := by rfl) : W l Z R K Q h cc ss pc ls (.null :: st) := by
  subst hp
  exact fun T L X N e => Ends.step (fun t k => X.checkcastNull ok.1 (g := mkF K.m pc ls (.null :: st)) rfl rfl (hb ok.2.2.1 hd) _ k) (G T L X N e)
theorem W.instN (ok : Ok Z K y code maxL ret) {idx : Nat} (hd : decode code pc = .ok (.instanceof idx, 3)) (pc' : Nat) (G : W l Z R K Q h cc ss pc' ls (.int 0 :: st)) (hp : pc + 3 = pc' := by rfl) : W l Z R K Q h cc ss pc ls (.null :: st) := by
  subst hp
  exact fun T L X N e => Ends.step (fun t k => X.instanceofNull ok.1 (g := mkF K.m pc ls (.null :: st)) rfl rfl (hb ok.2.2.1 hd) _ k) (G T L X N e)
end Walk
end Jvm.Own
namespace Jvm.Own
open Sem ClassFile Op Lib Jvm.Stand Jvm.Free Jvm.LawKit Jvm.RoadKit
section Wide
variable {l : Launch} {Z : State} {R : Room} {K : Ctx} {Q : Option Value → Heap → Prop} {h : Heap} {cc ss pc : Nat} {ls : Array Slot} {st : List Value} {y : MethodName} {code : ByteArray} {maxL : Nat} {ret : Option FieldType} {a0 : Array Value} {ts : List Jvm.Cond} {cs : List (Addr × Pc)}
/-- a contract whose callee may intern -/
def ConW (l : Launch) (Z : State) (y : MethodName) (code : ByteArray) (maxL : Nat) (ret : Option FieldType) (rm : Room) (as : Array Value) (h0 : Heap) (Q : Option Value → Heap → Prop) : Prop :=
  ∀ ws : List Jvm.Cond, MetFree l y (head1 (Jvm.Cond.code y code maxL ret :: ws) rm) (fun a U => a = as ∧ Z.Warmed39 U.vm ∧ U.heap = h0) (fun _ _ _ _ _ => True) (fun _ U o U' => ∃ v L, o = .returned v ∧ (Q v U'.heap ∧ Fr Z.heap.size L) ∧ ReturnedEndW U o U' L rm.cells rm.slots)
/-- the walk's end may be told of a start with other tables -/
def Wd (K : Ctx) : Prop := ∀ vm' k1, K.s.Since vm' k1 → ∀ o U L c n, k1 ≤ U.heap.size → FrameEnd (K.s.setVm vm') o U L c n → K.F o U L c n
theorem ConW.of {rm : Room} {as : Array Value} {h0 : Heap} (hp : plainFor y = true) (ls : Array Slot) (hf : ∀ m, entryFrame m as maxL = mkF m 0 ls []) (hW : ∀ K : Ctx, Ok Z K y code maxL ret → Wd K → W l Z rm K Q h0 0 0 0 ls []) : ConW l Z y code maxL ret rm as h0 Q := by
  intro ws
  refine MetFree.of_bodySF hp hisR ?_
  intro p e s m args below meth c s₁ Bd hml0 hP hK
  obtain ⟨rfl, hZ, hh⟩ := hP
  have e0 : s₁.heap = h0 := by rw [← hh, Bd.state]; rfl
  have X0 : Stand p l e rm s m args below meth c s₁ [] 0 0 := Stand.of_body Bd
  rw [hf]
  exact hW (p, e, s, m, args, below, meth, c, ReturnedEndW s) ⟨Bd.exec, hZ, Bd.bytes, hml0, findClass_of_methodNamed Bd.named, Bd.returns, (name_of_methodNamed Bd.named Bd.method).1, Bd.notSynchronized, fun _ _ _ _ _ q => ReturnedEndW.of_narrow q.1 q.2.1 q.2.2⟩
    (fun vm' k1 hS o U L c n hk q => by
      obtain ⟨a, b, d⟩ := hS.ended (U := U) q.2.1 hk q.2.2
      exact ⟨q.1, a, b, d⟩) s₁ [] X0 (Fr.nil _) e0
theorem HS.ext {h' : Heap} (H : HS Z h cs) (E : Ext h h') : HS Z h' cs := ⟨⟨Nat.le_trans H.1.1 E.1, fun x c q => E.2 x c (H.1.2 x c q)⟩, fun q hq => ⟨(H.2.1 q hq).1, (H.2.1 q hq).2.ext E⟩, H.2.2⟩
theorem Since.raise {s : State} {vm : Vm} {n m : Nat} (h : s.Since vm n) (q : n ≤ m) : s.Since vm m := ⟨h.1, h.2.mono q⟩
theorem Wd.next {vm1 : Vm} {k1 : Nat} (wd : Wd K) (hS : K.s.Since vm1 k1) : Wd (K.p, K.e, K.s.setVm vm1, K.m, K.args, K.below, K.meth, K.c, fun o U L c n => k1 ≤ U.heap.size → K.F o U L c n) := by
  intro vm2 k2 hS2 o U L c n hk2 hF hk1
  have h2 : (K.s.setVm vm1).Since vm2 (max k1 k2) := Since.raise hS2 (Nat.le_max_right _ _)
  exact wd vm2 (max k1 k2) (hS.trans h2 (Nat.le_max_left _ _)) o U L c n (Nat.max_le.mpr ⟨hk1, hk2⟩) hF
theorem W.ldcS (ok : Ok Z K y code maxL ret) (wd : Wd K) (tb : Tb Z a0 ts) (wS : ∀ a ∈ Bundle.stringAtoms, a.before a0 Z = true) (H : HS Z h cs) {idx : Nat} {text : String} (i1 : Nat) (w1 : ts[i1]? = some (.stringLink y.cls idx text)) (hd : decode code pc = .ok (.ldc idx, 2)) (n cc' ss' pc' : Nat) (hn : 4 * text.toList.length ≤ n)
    (G : ∀ a K' h' k1, Ok Z K' y code maxL ret → Wd K' → HS Z h' cs → k1 ≤ h'.size → W l Z R K' (fun v hh => Q v hh ∧ k1 ≤ hh.size) h' cc' ss' pc' ls (.ref a :: st))
    (hbig : n ≤ 536870912 := by decide) (hc : cc' ≤ R.cells := by decide) (hs : ss' ≤ R.slots := by decide) (hc' : cc + 2 = cc' := by rfl) (hs' : ss + (n + 4) = ss' := by rfl) (hp : pc + 2 = pc' := by rfl) : W l Z R K Q h cc ss pc ls st := by
  subst hp hc' hs'
  intro T L X N e
  obtain ⟨a, T', h', k1, X', e', E', hS, hk, hZ', hown', stp⟩ := Jvm.RoadKit.ldcS (s := K.s) (vm0 := K.s.vm) X ok.1 ok.2.1 ok.2.2.2.2.1 (tb _ (List.mem_of_getElem? w1)) wS e (k0 := 0) ((State.WarmedH.refl K.s).since 0) (Nat.zero_le _) (g := mkF K.m pc ls st) rfl (hb ok.2.2.1 hd) hn hbig hc hs
  obtain ⟨s2, o, st2, run, ended, v, L2, rfl, ⟨⟨hq, hk2⟩, N2⟩, hF⟩ := G a (K.p, K.e, K.s.setVm T'.vm, K.m, K.args, K.below, K.meth, K.c, fun o U L c n => k1 ≤ U.heap.size → K.F o U L c n) h' k1
    ⟨ok.1, hZ', ok.2.2.1, ok.2.2.2.1, hown', ok.2.2.2.2.2.1, ok.2.2.2.2.2.2.1, ok.2.2.2.2.2.2.2.1, fun o U L c n hF hk' => wd _ _ hS o U L c n hk' hF⟩ (wd.next hS) (H.ext E') hk T' _ X' N e'
  exact ⟨s2, _, stp _ st2, run, ended, v, L2, rfl, ⟨hq, N2⟩, hF hk2⟩
/-- as W.new; the new address lies behind the heap -/
theorem W.newB (ok : Ok Z K y code maxL ret) (tb : Tb Z a0 ts) (H : HS Z h cs) {idx n : Nat} {C : String} (i1 i2 i3 : Nat) (w1 : ts[i1]? = some (.classLink y.cls idx C)) (w2 : ts[i2]? = some (.instantiable C n)) (w3 : ts[i3]? = some (.initialized C)) {fs : List Fl} (nw : Nw Z a0 C fs)
    (hd : decode code pc = .ok (.new idx, 3)) (cc' ss' pc' : Nat) (G : ∀ a h', h.size ≤ a → HS Z h' ((a, .inl (C, fs)) :: cs) → W l Z R K Q h' cc' ss' pc' ls (.ref a :: st)) (hc : cc' ≤ R.cells := by decide) (hs : ss' ≤ R.slots := by decide) (hc' : cc + 1 = cc' := by rfl) (hs' : ss + n = ss' := by rfl) (hp : pc + 3 = pc' := by rfl) :
    W l Z R K Q h cc ss pc ls st := by
  subst hp hc' hs'
  intro T L X N e
  obtain ⟨T', h', X', e', E', A', D', -, stp⟩ := Jvm.RoadKit.newO X ok.1 ok.2.1 ok.2.2.2.2.1 (tb _ (List.mem_of_getElem? w1)) (tb _ (List.mem_of_getElem? w2)) (tb _ (List.mem_of_getElem? w3)) e (g := mkF K.m pc ls st) rfl (hb ok.2.2.1 hd) hc hs
  refine Ends.step stp (G h.size h' (Nat.le_refl _) (H.add E' ⟨A', fun f hf => ?_⟩) T' _ X' N e')
  obtain ⟨L1, ty, t1, t2⟩ := nw f hf
  have q := D' L1 t1
  rw [t2] at q
  exact q
end Wide
end Jvm.Own
namespace Jvm.Pilot.@@N@@
open Jvm Jvm.ClassFile Sem Op Lib Jvm.Free Jvm.Stand Jvm.LawKit Jvm.RoadKit Bundle Jvm.Pilot.@@N@@.Jvm.D
theorem d_jdk_30_method_1_0 : decode jdk_30_method_1_code 0 = .ok (.aload_n 0, 1) := by decide +kernel
theorem d_jdk_30_method_1_1 : decode jdk_30_method_1_code 1 = .ok (.invokespecial 1, 3) := by decide +kernel
theorem d_jdk_30_method_1_4 : decode jdk_30_method_1_code 4 = .ok (.return_, 1) := by decide +kernel
theorem d_prog_33_method_1_0 : decode prog_33_method_1_code 0 = .ok (.aload_n 0, 1) := by decide +kernel
theorem d_prog_33_method_1_1 : decode prog_33_method_1_code 1 = .ok (.invokespecial 1, 3) := by decide +kernel
theorem pd_0 : parseMethodDescriptor "()V" = some ⟨[], none⟩ := by decide +kernel
theorem d_prog_33_method_1_4 : decode prog_33_method_1_code 4 = .ok (.aload_n 0, 1) := by decide +kernel
theorem d_prog_33_method_1_5 : decode prog_33_method_1_code 5 = .ok (.iload_n 1, 1) := by decide +kernel
theorem d_prog_33_method_1_6 : decode prog_33_method_1_code 6 = .ok (.putfield 7, 3) := by decide +kernel
theorem d_prog_33_method_1_9 : decode prog_33_method_1_code 9 = .ok (.aload_n 0, 1) := by decide +kernel
theorem d_prog_33_method_1_10 : decode prog_33_method_1_code 10 = .ok (.iload_n 2, 1) := by decide +kernel
theorem d_prog_33_method_1_11 : decode prog_33_method_1_code 11 = .ok (.putfield 13, 3) := by decide +kernel
theorem d_prog_33_method_1_14 : decode prog_33_method_1_code 14 = .ok (.return_, 1) := by decide +kernel
theorem d_prog_46_method_1_0 : decode prog_46_method_1_code 0 = .ok (.aload_n 0, 1) := by decide +kernel
theorem d_prog_46_method_1_1 : decode prog_46_method_1_code 1 = .ok (.invokespecial 1, 3) := by decide +kernel
theorem d_prog_46_method_1_4 : decode prog_46_method_1_code 4 = .ok (.aload_n 0, 1) := by decide +kernel
theorem d_prog_46_method_1_5 : decode prog_46_method_1_code 5 = .ok (.aload_n 1, 1) := by decide +kernel
theorem d_prog_46_method_1_6 : decode prog_46_method_1_code 6 = .ok (.putfield 7, 3) := by decide +kernel
theorem d_prog_46_method_1_9 : decode prog_46_method_1_code 9 = .ok (.aload_n 0, 1) := by decide +kernel
theorem d_prog_46_method_1_10 : decode prog_46_method_1_code 10 = .ok (.aload_n 2, 1) := by decide +kernel
theorem d_prog_46_method_1_11 : decode prog_46_method_1_code 11 = .ok (.putfield 13, 3) := by decide +kernel
theorem d_prog_46_method_1_14 : decode prog_46_method_1_code 14 = .ok (.aload_n 0, 1) := by decide +kernel
theorem d_prog_46_method_1_15 : decode prog_46_method_1_code 15 = .ok (.aload_n 3, 1) := by decide +kernel
theorem d_prog_46_method_1_16 : decode prog_46_method_1_code 16 = .ok (.putfield 17, 3) := by decide +kernel
theorem d_prog_46_method_1_19 : decode prog_46_method_1_code 19 = .ok (.return_, 1) := by decide +kernel
theorem d_prog_46_method_2_0 : decode prog_46_method_2_code 0 = .ok (.aload_n 0, 1) := by decide +kernel
theorem d_prog_46_method_2_1 : decode prog_46_method_2_code 1 = .ok (.getfield 7, 3) := by decide +kernel
theorem d_prog_46_method_2_4 : decode prog_46_method_2_code 4 = .ok (.aload_n 1, 1) := by decide +kernel
theorem d_prog_46_method_2_5 : decode prog_46_method_2_code 5 = .ok (.if_acmp .ne 7, 3) := by decide +kernel
theorem d_prog_46_method_2_8 : decode prog_46_method_2_code 8 = .ok (.iconst 1, 1) := by decide +kernel
theorem d_prog_46_method_2_9 : decode prog_46_method_2_code 9 = .ok (.goto 4, 3) := by decide +kernel
theorem d_prog_46_method_2_13 : decode prog_46_method_2_code 13 = .ok (.ireturn, 1) := by decide +kernel
theorem d_prog_46_method_2_12 : decode prog_46_method_2_code 12 = .ok (.iconst 0, 1) := by decide +kernel
theorem d_method_2_0 : decode method_2_code 0 = .ok (.iload_n 0, 1) := by decide +kernel
theorem d_method_2_1 : decode method_2_code 1 = .ok (.ifCond .ne 7, 3) := by decide +kernel
theorem d_method_2_8 : decode method_2_code 8 = .ok (.iload_n 0, 1) := by decide +kernel
theorem d_method_2_9 : decode method_2_code 9 = .ok (.iconst 1, 1) := by decide +kernel
theorem d_method_2_10 : decode method_2_code 10 = .ok (.if_icmp .ne 7, 3) := by decide +kernel
theorem d_method_2_17 : decode method_2_code 17 = .ok (.iload_n 0, 1) := by decide +kernel
theorem d_method_2_18 : decode method_2_code 18 = .ok (.iconst 2, 1) := by decide +kernel
theorem d_method_2_19 : decode method_2_code 19 = .ok (.if_icmp .ne 7, 3) := by decide +kernel
theorem d_method_2_26 : decode method_2_code 26 = .ok (.iload_n 0, 1) := by decide +kernel
theorem d_method_2_27 : decode method_2_code 27 = .ok (.iconst 3, 1) := by decide +kernel
theorem d_method_2_28 : decode method_2_code 28 = .ok (.if_icmp .ne 7, 3) := by decide +kernel
theorem d_method_2_35 : decode method_2_code 35 = .ok (.iload_n 0, 1) := by decide +kernel
theorem d_method_2_36 : decode method_2_code 36 = .ok (.iconst 4, 1) := by decide +kernel
theorem d_method_2_37 : decode method_2_code 37 = .ok (.if_icmp .ne 7, 3) := by decide +kernel
theorem d_method_2_44 : decode method_2_code 44 = .ok (.iload_n 0, 1) := by decide +kernel
theorem d_method_2_45 : decode method_2_code 45 = .ok (.iconst 5, 1) := by decide +kernel
theorem d_method_2_46 : decode method_2_code 46 = .ok (.if_icmp .ne 7, 3) := by decide +kernel
theorem d_method_2_53 : decode method_2_code 53 = .ok (.iload_n 0, 1) := by decide +kernel
theorem d_method_2_54 : decode method_2_code 54 = .ok (.bipush 6, 2) := by decide +kernel
theorem d_method_2_56 : decode method_2_code 56 = .ok (.if_icmp .ne 7, 3) := by decide +kernel
theorem d_method_2_63 : decode method_2_code 63 = .ok (.iload_n 0, 1) := by decide +kernel
theorem d_method_2_64 : decode method_2_code 64 = .ok (.bipush 7, 2) := by decide +kernel
theorem d_method_2_66 : decode method_2_code 66 = .ok (.if_icmp .ne 7, 3) := by decide +kernel
theorem d_method_2_73 : decode method_2_code 73 = .ok (.iload_n 0, 1) := by decide +kernel
theorem d_method_2_74 : decode method_2_code 74 = .ok (.bipush 8, 2) := by decide +kernel
theorem d_method_2_76 : decode method_2_code 76 = .ok (.if_icmp .ne 7, 3) := by decide +kernel
theorem d_method_2_83 : decode method_2_code 83 = .ok (.iload_n 0, 1) := by decide +kernel
theorem d_method_2_84 : decode method_2_code 84 = .ok (.bipush 9, 2) := by decide +kernel
theorem d_method_2_86 : decode method_2_code 86 = .ok (.if_icmp .ne 7, 3) := by decide +kernel
theorem d_method_2_93 : decode method_2_code 93 = .ok (.iload_n 0, 1) := by decide +kernel
theorem d_method_2_94 : decode method_2_code 94 = .ok (.bipush 10, 2) := by decide +kernel
theorem d_method_2_96 : decode method_2_code 96 = .ok (.if_icmp .ne 7, 3) := by decide +kernel
theorem d_method_2_103 : decode method_2_code 103 = .ok (.iload_n 0, 1) := by decide +kernel
theorem d_method_2_104 : decode method_2_code 104 = .ok (.bipush 11, 2) := by decide +kernel
theorem d_method_2_106 : decode method_2_code 106 = .ok (.if_icmp .ne 7, 3) := by decide +kernel
theorem d_method_2_113 : decode method_2_code 113 = .ok (.iload_n 0, 1) := by decide +kernel
theorem d_method_2_114 : decode method_2_code 114 = .ok (.bipush 12, 2) := by decide +kernel
theorem d_method_2_116 : decode method_2_code 116 = .ok (.if_icmp .ne 7, 3) := by decide +kernel
theorem d_method_2_123 : decode method_2_code 123 = .ok (.iload_n 0, 1) := by decide +kernel
theorem d_method_2_124 : decode method_2_code 124 = .ok (.bipush 13, 2) := by decide +kernel
theorem d_method_2_126 : decode method_2_code 126 = .ok (.if_icmp .ne 7, 3) := by decide +kernel
theorem d_method_2_133 : decode method_2_code 133 = .ok (.iload_n 0, 1) := by decide +kernel
theorem d_method_2_134 : decode method_2_code 134 = .ok (.bipush 14, 2) := by decide +kernel
theorem d_method_2_136 : decode method_2_code 136 = .ok (.if_icmp .ne 7, 3) := by decide +kernel
theorem d_method_2_143 : decode method_2_code 143 = .ok (.iload_n 0, 1) := by decide +kernel
theorem d_method_2_144 : decode method_2_code 144 = .ok (.bipush 15, 2) := by decide +kernel
theorem d_method_2_146 : decode method_2_code 146 = .ok (.if_icmp .ne 7, 3) := by decide +kernel
theorem d_method_2_153 : decode method_2_code 153 = .ok (.iload_n 0, 1) := by decide +kernel
theorem d_method_2_154 : decode method_2_code 154 = .ok (.bipush 16, 2) := by decide +kernel
theorem d_method_2_156 : decode method_2_code 156 = .ok (.if_icmp .ne 7, 3) := by decide +kernel
theorem d_method_2_163 : decode method_2_code 163 = .ok (.iload_n 0, 1) := by decide +kernel
theorem d_method_2_164 : decode method_2_code 164 = .ok (.bipush 17, 2) := by decide +kernel
theorem d_method_2_166 : decode method_2_code 166 = .ok (.if_icmp .ne 7, 3) := by decide +kernel
theorem d_method_2_173 : decode method_2_code 173 = .ok (.iload_n 0, 1) := by decide +kernel
theorem d_method_2_174 : decode method_2_code 174 = .ok (.bipush 18, 2) := by decide +kernel
theorem d_method_2_176 : decode method_2_code 176 = .ok (.if_icmp .ne 7, 3) := by decide +kernel
theorem d_method_2_183 : decode method_2_code 183 = .ok (.iload_n 0, 1) := by decide +kernel
theorem d_method_2_184 : decode method_2_code 184 = .ok (.bipush 19, 2) := by decide +kernel
theorem d_method_2_186 : decode method_2_code 186 = .ok (.if_icmp .ne 7, 3) := by decide +kernel
theorem d_method_2_193 : decode method_2_code 193 = .ok (.iload_n 0, 1) := by decide +kernel
theorem d_method_2_194 : decode method_2_code 194 = .ok (.bipush 20, 2) := by decide +kernel
theorem d_method_2_196 : decode method_2_code 196 = .ok (.if_icmp .ne 7, 3) := by decide +kernel
theorem d_method_2_203 : decode method_2_code 203 = .ok (.iload_n 0, 1) := by decide +kernel
theorem d_method_2_204 : decode method_2_code 204 = .ok (.bipush 21, 2) := by decide +kernel
theorem d_method_2_206 : decode method_2_code 206 = .ok (.if_icmp .ne 7, 3) := by decide +kernel
theorem d_method_2_213 : decode method_2_code 213 = .ok (.iload_n 0, 1) := by decide +kernel
theorem d_method_2_214 : decode method_2_code 214 = .ok (.bipush 22, 2) := by decide +kernel
theorem d_method_2_216 : decode method_2_code 216 = .ok (.if_icmp .ne 7, 3) := by decide +kernel
theorem d_method_2_223 : decode method_2_code 223 = .ok (.iload_n 0, 1) := by decide +kernel
theorem d_method_2_224 : decode method_2_code 224 = .ok (.bipush 23, 2) := by decide +kernel
theorem d_method_2_226 : decode method_2_code 226 = .ok (.if_icmp .ne 7, 3) := by decide +kernel
theorem d_method_2_233 : decode method_2_code 233 = .ok (.iload_n 0, 1) := by decide +kernel
theorem d_method_2_234 : decode method_2_code 234 = .ok (.bipush 24, 2) := by decide +kernel
theorem d_method_2_236 : decode method_2_code 236 = .ok (.if_icmp .ne 7, 3) := by decide +kernel
theorem d_method_2_243 : decode method_2_code 243 = .ok (.iload_n 0, 1) := by decide +kernel
theorem d_method_2_244 : decode method_2_code 244 = .ok (.bipush 25, 2) := by decide +kernel
theorem d_method_2_246 : decode method_2_code 246 = .ok (.if_icmp .ne 7, 3) := by decide +kernel
theorem d_method_2_253 : decode method_2_code 253 = .ok (.iload_n 0, 1) := by decide +kernel
theorem d_method_2_254 : decode method_2_code 254 = .ok (.bipush 26, 2) := by decide +kernel
theorem d_method_2_256 : decode method_2_code 256 = .ok (.if_icmp .ne 7, 3) := by decide +kernel
theorem d_method_2_263 : decode method_2_code 263 = .ok (.iload_n 0, 1) := by decide +kernel
theorem d_method_2_264 : decode method_2_code 264 = .ok (.bipush 27, 2) := by decide +kernel
theorem d_method_2_266 : decode method_2_code 266 = .ok (.if_icmp .ne 7, 3) := by decide +kernel
theorem d_method_2_273 : decode method_2_code 273 = .ok (.getstatic 94, 3) := by decide +kernel
theorem d_method_2_276 : decode method_2_code 276 = .ok (.areturn, 1) := by decide +kernel
theorem d_method_2_269 : decode method_2_code 269 = .ok (.getstatic 91, 3) := by decide +kernel
theorem d_method_2_272 : decode method_2_code 272 = .ok (.areturn, 1) := by decide +kernel
theorem d_method_2_259 : decode method_2_code 259 = .ok (.getstatic 88, 3) := by decide +kernel
theorem d_method_2_262 : decode method_2_code 262 = .ok (.areturn, 1) := by decide +kernel
theorem d_method_2_249 : decode method_2_code 249 = .ok (.getstatic 85, 3) := by decide +kernel
theorem d_method_2_252 : decode method_2_code 252 = .ok (.areturn, 1) := by decide +kernel
theorem d_method_2_239 : decode method_2_code 239 = .ok (.getstatic 82, 3) := by decide +kernel
theorem d_method_2_242 : decode method_2_code 242 = .ok (.areturn, 1) := by decide +kernel
theorem d_method_2_229 : decode method_2_code 229 = .ok (.getstatic 79, 3) := by decide +kernel
theorem d_method_2_232 : decode method_2_code 232 = .ok (.areturn, 1) := by decide +kernel
theorem d_method_2_219 : decode method_2_code 219 = .ok (.getstatic 76, 3) := by decide +kernel
theorem d_method_2_222 : decode method_2_code 222 = .ok (.areturn, 1) := by decide +kernel
theorem d_method_2_209 : decode method_2_code 209 = .ok (.getstatic 73, 3) := by decide +kernel
theorem d_method_2_212 : decode method_2_code 212 = .ok (.areturn, 1) := by decide +kernel
theorem d_method_2_199 : decode method_2_code 199 = .ok (.getstatic 70, 3) := by decide +kernel
theorem d_method_2_202 : decode method_2_code 202 = .ok (.areturn, 1) := by decide +kernel
theorem d_method_2_189 : decode method_2_code 189 = .ok (.getstatic 67, 3) := by decide +kernel
theorem d_method_2_192 : decode method_2_code 192 = .ok (.areturn, 1) := by decide +kernel
theorem d_method_2_179 : decode method_2_code 179 = .ok (.getstatic 64, 3) := by decide +kernel
theorem d_method_2_182 : decode method_2_code 182 = .ok (.areturn, 1) := by decide +kernel
theorem d_method_2_169 : decode method_2_code 169 = .ok (.getstatic 61, 3) := by decide +kernel
theorem d_method_2_172 : decode method_2_code 172 = .ok (.areturn, 1) := by decide +kernel
theorem d_method_2_159 : decode method_2_code 159 = .ok (.getstatic 58, 3) := by decide +kernel
theorem d_method_2_162 : decode method_2_code 162 = .ok (.areturn, 1) := by decide +kernel
theorem d_method_2_149 : decode method_2_code 149 = .ok (.getstatic 55, 3) := by decide +kernel
theorem d_method_2_152 : decode method_2_code 152 = .ok (.areturn, 1) := by decide +kernel
theorem d_method_2_139 : decode method_2_code 139 = .ok (.getstatic 52, 3) := by decide +kernel
theorem d_method_2_142 : decode method_2_code 142 = .ok (.areturn, 1) := by decide +kernel
theorem d_method_2_129 : decode method_2_code 129 = .ok (.getstatic 49, 3) := by decide +kernel
theorem d_method_2_132 : decode method_2_code 132 = .ok (.areturn, 1) := by decide +kernel
theorem d_method_2_119 : decode method_2_code 119 = .ok (.getstatic 46, 3) := by decide +kernel
theorem d_method_2_122 : decode method_2_code 122 = .ok (.areturn, 1) := by decide +kernel
theorem d_method_2_109 : decode method_2_code 109 = .ok (.getstatic 43, 3) := by decide +kernel
theorem d_method_2_112 : decode method_2_code 112 = .ok (.areturn, 1) := by decide +kernel
theorem d_method_2_99 : decode method_2_code 99 = .ok (.getstatic 40, 3) := by decide +kernel
theorem d_method_2_102 : decode method_2_code 102 = .ok (.areturn, 1) := by decide +kernel
theorem d_method_2_89 : decode method_2_code 89 = .ok (.getstatic 37, 3) := by decide +kernel
theorem d_method_2_92 : decode method_2_code 92 = .ok (.areturn, 1) := by decide +kernel
theorem d_method_2_79 : decode method_2_code 79 = .ok (.getstatic 34, 3) := by decide +kernel
theorem d_method_2_82 : decode method_2_code 82 = .ok (.areturn, 1) := by decide +kernel
theorem d_method_2_69 : decode method_2_code 69 = .ok (.getstatic 31, 3) := by decide +kernel
theorem d_method_2_72 : decode method_2_code 72 = .ok (.areturn, 1) := by decide +kernel
theorem d_method_2_59 : decode method_2_code 59 = .ok (.getstatic 28, 3) := by decide +kernel
theorem d_method_2_62 : decode method_2_code 62 = .ok (.areturn, 1) := by decide +kernel
theorem d_method_2_49 : decode method_2_code 49 = .ok (.getstatic 25, 3) := by decide +kernel
theorem d_method_2_52 : decode method_2_code 52 = .ok (.areturn, 1) := by decide +kernel
theorem d_method_2_40 : decode method_2_code 40 = .ok (.getstatic 22, 3) := by decide +kernel
theorem d_method_2_43 : decode method_2_code 43 = .ok (.areturn, 1) := by decide +kernel
theorem d_method_2_31 : decode method_2_code 31 = .ok (.getstatic 19, 3) := by decide +kernel
theorem d_method_2_34 : decode method_2_code 34 = .ok (.areturn, 1) := by decide +kernel
theorem d_method_2_22 : decode method_2_code 22 = .ok (.getstatic 16, 3) := by decide +kernel
theorem d_method_2_25 : decode method_2_code 25 = .ok (.areturn, 1) := by decide +kernel
theorem d_method_2_13 : decode method_2_code 13 = .ok (.getstatic 13, 3) := by decide +kernel
theorem d_method_2_16 : decode method_2_code 16 = .ok (.areturn, 1) := by decide +kernel
theorem d_method_2_4 : decode method_2_code 4 = .ok (.getstatic 7, 3) := by decide +kernel
theorem d_method_2_7 : decode method_2_code 7 = .ok (.areturn, 1) := by decide +kernel
theorem d_jdk_43_method_3_0 : decode jdk_43_method_3_code 0 = .ok (.iload_n 0, 1) := by decide +kernel
theorem d_jdk_43_method_3_1 : decode jdk_43_method_3_code 1 = .ok (.sipush 255, 3) := by decide +kernel
theorem d_jdk_43_method_3_4 : decode jdk_43_method_3_code 4 = .ok (.if_icmp .gt 7, 3) := by decide +kernel
theorem d_jdk_43_method_3_7 : decode jdk_43_method_3_code 7 = .ok (.iconst 1, 1) := by decide +kernel
theorem d_jdk_43_method_3_8 : decode jdk_43_method_3_code 8 = .ok (.goto 4, 3) := by decide +kernel
theorem d_jdk_43_method_3_12 : decode jdk_43_method_3_code 12 = .ok (.ireturn, 1) := by decide +kernel
theorem d_jdk_43_method_46_0 : decode jdk_43_method_46_code 0 = .ok (.iconst 1, 1) := by decide +kernel
theorem d_jdk_43_method_46_1 : decode jdk_43_method_46_code 1 = .ok (.newarray .byte, 2) := by decide +kernel
theorem d_jdk_43_method_46_3 : decode jdk_43_method_46_code 3 = .ok (.dup, 1) := by decide +kernel
theorem d_jdk_43_method_46_4 : decode jdk_43_method_46_code 4 = .ok (.iconst 0, 1) := by decide +kernel
theorem d_jdk_43_method_46_5 : decode jdk_43_method_46_code 5 = .ok (.iload_n 0, 1) := by decide +kernel
theorem d_jdk_43_method_46_6 : decode jdk_43_method_46_code 6 = .ok (.i2b, 1) := by decide +kernel
theorem d_jdk_43_method_46_7 : decode jdk_43_method_46_code 7 = .ok (.bastore, 1) := by decide +kernel
theorem d_jdk_43_method_46_8 : decode jdk_43_method_46_code 8 = .ok (.areturn, 1) := by decide +kernel
theorem d_jdk_42_method_151_0 : decode jdk_42_method_151_code 0 = .ok (.aload_n 0, 1) := by decide +kernel
theorem d_jdk_42_method_151_1 : decode jdk_42_method_151_code 1 = .ok (.invokespecial 1, 3) := by decide +kernel
theorem d_jdk_42_method_151_4 : decode jdk_42_method_151_code 4 = .ok (.aload_n 0, 1) := by decide +kernel
theorem d_jdk_42_method_151_5 : decode jdk_42_method_151_code 5 = .ok (.aload_n 1, 1) := by decide +kernel
theorem d_jdk_42_method_151_6 : decode jdk_42_method_151_code 6 = .ok (.putfield 9, 3) := by decide +kernel
theorem d_jdk_42_method_151_9 : decode jdk_42_method_151_code 9 = .ok (.aload_n 0, 1) := by decide +kernel
theorem d_jdk_42_method_151_10 : decode jdk_42_method_151_code 10 = .ok (.iload_n 2, 1) := by decide +kernel
theorem d_jdk_42_method_151_11 : decode jdk_42_method_151_code 11 = .ok (.putfield 15, 3) := by decide +kernel
theorem d_jdk_42_method_151_14 : decode jdk_42_method_151_code 14 = .ok (.return_, 1) := by decide +kernel
theorem d_jdk_42_method_139_0 : decode jdk_42_method_139_code 0 = .ok (.getstatic 38, 3) := by decide +kernel
theorem d_jdk_42_method_139_3 : decode jdk_42_method_139_code 3 = .ok (.ifCond .eq 23, 3) := by decide +kernel
theorem d_jdk_42_method_139_6 : decode jdk_42_method_139_code 6 = .ok (.iload_n 0, 1) := by decide +kernel
theorem d_jdk_42_method_139_7 : decode jdk_42_method_139_code 7 = .ok (.invokestatic 1015, 3) := by decide +kernel
theorem pd_1 : parseMethodDescriptor "(C)Z" = some ⟨[.char], some .boolean⟩ := by decide +kernel
theorem d_jdk_42_method_139_10 : decode jdk_42_method_139_code 10 = .ok (.ifCond .eq 16, 3) := by decide +kernel
theorem d_jdk_42_method_139_13 : decode jdk_42_method_139_code 13 = .ok (.new 10, 3) := by decide +kernel
theorem d_jdk_42_method_139_16 : decode jdk_42_method_139_code 16 = .ok (.dup, 1) := by decide +kernel
theorem d_jdk_42_method_139_17 : decode jdk_42_method_139_code 17 = .ok (.iload_n 0, 1) := by decide +kernel
theorem d_jdk_42_method_139_18 : decode jdk_42_method_139_code 18 = .ok (.invokestatic 1018, 3) := by decide +kernel
theorem pd_2 : parseMethodDescriptor "(C)[B" = some ⟨[.char], some (.array .byte)⟩ := by decide +kernel
theorem d_jdk_42_method_139_21 : decode jdk_42_method_139_code 21 = .ok (.iconst 0, 1) := by decide +kernel
theorem d_jdk_42_method_139_22 : decode jdk_42_method_139_code 22 = .ok (.invokespecial 209, 3) := by decide +kernel
theorem pd_3 : parseMethodDescriptor "([BB)V" = some ⟨[(.array .byte), .byte], none⟩ := by decide +kernel
theorem d_jdk_42_method_139_25 : decode jdk_42_method_139_code 25 = .ok (.areturn, 1) := by decide +kernel
theorem pd_4 : parseMethodDescriptor "(II)V" = some ⟨[.int, .int], none⟩ := by decide +kernel
theorem pd_5 : parseMethodDescriptor "(I)Lcom/example/spikewright/spikewright/model/Token$Kind;" = some ⟨[.int], some (.object "com/example/spikewright/spikewright/model/Token$Kind")⟩ := by decide +kernel
theorem pd_6 : parseMethodDescriptor "(Lcom/example/spikewright/spikewright/model/Token$Kind;Ljava/lang/String;Lcom/example/spikewright/spikewright/model/Position;)V" = some ⟨[(.object "com/example/spikewright/spikewright/model/Token$Kind"), (.object "java/lang/String"), (.object "com/example/spikewright/spikewright/model/Position")], none⟩ := by decide +kernel
theorem pd_7 : parseMethodDescriptor "(Lcom/example/spikewright/spikewright/model/Token$Kind;)Z" = some ⟨[(.object "com/example/spikewright/spikewright/model/Token$Kind")], some .boolean⟩ := by decide +kernel
theorem pd_8 : parseMethodDescriptor "(C)Ljava/lang/String;" = some ⟨[.char], some (.object "java/lang/String")⟩ := by decide +kernel
abbrev o_Pos (f0 f1 : Value) : Own.Pc := .inl ("com/example/spikewright/spikewright/model/Position", [("com/example/spikewright/spikewright/model/Position", "line", "I", f0), ("com/example/spikewright/spikewright/model/Position", "column", "I", f1)])
theorem nw_Pos {Z : State} {a0 : Array Value} (tb : Own.Tb Z a0 tables_1) : Own.Nw Z a0 "com/example/spikewright/spikewright/model/Position" [("com/example/spikewright/spikewright/model/Position", "line", "I", (.int (0 : Int32))), ("com/example/spikewright/spikewright/model/Position", "column", "I", (.int (0 : Int32)))] := (Own.Nw.cons (Or.inr (tb _ (List.mem_of_getElem? (i := 24) rfl))) (ty := .int) (by decide) rfl (Own.Nw.cons (Or.inr (tb _ (List.mem_of_getElem? (i := 26) rfl))) (ty := .int) (by decide) rfl Own.Nw.nil))
abbrev o_Tok (f0 f1 f2 : Value) : Own.Pc := .inl ("com/example/spikewright/spikewright/model/Token", [("com/example/spikewright/spikewright/model/Token", "kind", "Lcom/example/spikewright/spikewright/model/Token$Kind;", f0), ("com/example/spikewright/spikewright/model/Token", "text", "Ljava/lang/String;", f1), ("com/example/spikewright/spikewright/model/Token", "position", "Lcom/example/spikewright/spikewright/model/Position;", f2)])
theorem nw_Tok {Z : State} {a0 : Array Value} (tb : Own.Tb Z a0 tables_1) : Own.Nw Z a0 "com/example/spikewright/spikewright/model/Token" [("com/example/spikewright/spikewright/model/Token", "kind", "Lcom/example/spikewright/spikewright/model/Token$Kind;", .null), ("com/example/spikewright/spikewright/model/Token", "text", "Ljava/lang/String;", .null), ("com/example/spikewright/spikewright/model/Token", "position", "Lcom/example/spikewright/spikewright/model/Position;", .null)] := (Own.Nw.cons (Or.inr (tb _ (List.mem_of_getElem? (i := 42) rfl))) (ty := (.object "com/example/spikewright/spikewright/model/Token$Kind")) (by decide) rfl (Own.Nw.cons (Or.inr (tb _ (List.mem_of_getElem? (i := 44) rfl))) (ty := (.object "java/lang/String")) (by decide) rfl (Own.Nw.cons (Or.inr (tb _ (List.mem_of_getElem? (i := 46) rfl))) (ty := (.object "com/example/spikewright/spikewright/model/Position")) (by decide) rfl Own.Nw.nil)))
abbrev o_Str (f0 f1 : Value) : Own.Pc := .inl ("java/lang/String", [("java/lang/String", "value", "[B", f0), ("java/lang/String", "coder", "B", f1)])
theorem nw_Str {Z : State} {a0 : Array Value} (tb : Own.Tb Z a0 tables_1) : Own.Nw Z a0 "java/lang/String" [("java/lang/String", "value", "[B", .null), ("java/lang/String", "coder", "B", (.int (0 : Int32)))] := (Own.Nw.cons (Or.inr (tb _ (List.mem_of_getElem? (i := 5) rfl))) (ty := (.array .byte)) (by decide) rfl (Own.Nw.cons (Or.inr (tb _ (List.mem_of_getElem? (i := 6) rfl))) (ty := .byte) (by decide) rfl Own.Nw.nil))
def kf (w : Nat → Addr) (p : Int32) : Addr := if p = 0 then w 0 else if p = 1 then w 1 else if p = 2 then w 2 else if p = 3 then w 3 else if p = 4 then w 4 else if p = 5 then w 5 else if p = 6 then w 6 else if p = 7 then w 7 else if p = 8 then w 8 else if p = 9 then w 9 else if p = 10 then w 10 else if p = 11 then w 11 else if p = 12 then w 12 else if p = 13 then w 13 else if p = 14 then w 14 else if p = 15 then w 15 else if p = 16 then w 16 else if p = 17 then w 17 else if p = 18 then w 18 else if p = 19 then w 19 else if p = 20 then w 20 else if p = 21 then w 21 else if p = 22 then w 22 else if p = 23 then w 23 else if p = 24 then w 24 else if p = 25 then w 25 else if p = 26 then w 26 else if p = 27 then w 27 else w 28
theorem wS {Z : State} {a0 : Array Value} (tb : Own.Tb Z a0 tables_1) : ∀ a ∈ Bundle.stringAtoms, a.before a0 Z = true := by
  intro a ha
  simp only [Bundle.stringAtoms, List.mem_cons, List.not_mem_nil, or_false] at ha
  rcases ha with rfl | rfl | rfl | rfl | rfl | rfl | rfl
  · exact tb _ (List.mem_of_getElem? (i := 2) rfl)
  · exact tb _ (List.mem_of_getElem? (i := 3) rfl)
  · exact tb _ (List.mem_of_getElem? (i := 4) rfl)
  · exact tb _ (List.mem_of_getElem? (i := 5) rfl)
  · exact tb _ (List.mem_of_getElem? (i := 6) rfl)
  · exact tb _ (List.mem_of_getElem? (i := 7) rfl)
  · exact tb _ (List.mem_of_getElem? (i := 8) rfl)
set_option maxRecDepth 65536 in
set_option maxHeartbeats 4000000 in
theorem c_recPos (l : Launch) {Z : State} {a0 : Array Value} (tb : Own.Tb Z a0 tables_1) (a : Addr) (h : Heap) :
    Own.Con l Z (⟨"java/lang/Record", "<init>", "()V"⟩ : MethodName) jdk_30_method_1_code 1 none ({ frames := 1, cells := 0, slots := 0, locals := 12 } : Room) #[(.ref a)] h (fun rr h' => rr = none ∧ h = h') := by
  refine Own.Con.of (plainFor_of_name (by first | (simp [plainName, overriddenIn]; done) | decide +kernel)) #[.val (.ref a)] (fun m => by first | rfl | (simp [entryFrame, mkF, argsToLocals, Value.category, maxLocals]; done)) (fun K ok => ?_)
  refine Own.W.aloadN ok d_jdk_30_method_1_0 1 rfl rfl ?_
  refine Own.W.initO ok tb 20 21 22 rfl rfl rfl d_jdk_30_method_1_1 0 4 ?_
  exact Own.W.vret ok d_jdk_30_method_1_4 ⟨rfl, rfl⟩
set_option maxRecDepth 65536 in
set_option maxHeartbeats 4000000 in
theorem c_pos (l : Launch) {Z : State} {a0 : Array Value} (tb : Own.Tb Z a0 tables_1) (a : Addr) (p : Int32) (q : Int32) (h : Heap) (cs : List (Addr × Own.Pc)) (H : Own.HS Z h ((a, o_Pos (.int (0 : Int32)) (.int (0 : Int32))) :: cs)) :
    Own.Con l Z (⟨"com/example/spikewright/spikewright/model/Position", "<init>", "(II)V"⟩ : MethodName) prog_33_method_1_code 3 none ({ frames := 2, cells := 0, slots := 0, locals := 24 } : Room) #[(.ref a), (.int p), (.int q)] h (fun rr h' => rr = none ∧ Own.HS Z h' ((a, o_Pos (.int p) (.int q)) :: cs)) := by
  refine Own.Con.of (plainFor_of_name (by first | (simp [plainName, overriddenIn]; done) | decide +kernel)) #[.val (.ref a), .val (.int p), .val (.int q)] (fun m => by first | rfl | (simp [entryFrame, mkF, argsToLocals, Value.category, maxLocals]; done)) (fun K ok => ?_)
  refine Own.W.aloadN ok d_prog_33_method_1_0 1 rfl rfl ?_
  refine Own.W.callI ok tb (a := a) (argsL := []) (rest := []) 15 16 18 19 rfl rfl rfl rfl d_prog_33_method_1_1 pd_0 (c_recPos l tb a h) 0 0 0 4 ?_
  rintro _ _ ⟨rfl, rfl⟩
  show Own.W l Z _ K _ h 0 0 4 #[.val (.ref a), .val (.int p), .val (.int q)] []
  refine Own.W.aloadN ok d_prog_33_method_1_4 5 rfl rfl ?_
  refine Own.W.iloadN ok d_prog_33_method_1_5 6 rfl ?_
  refine Own.W.putF ok tb H (i := 0) (j := 0) (ty := .int) (w' := (.int p)) rfl rfl 23 10 rfl rfl Via.refl (Or.inr ⟨(tb _ (List.mem_of_getElem? (i := 24) rfl)), rfl, rfl⟩) (Own.Lay.of (nw_Pos tb) rfl) (by decide) rfl rfl d_prog_33_method_1_6 9 ((a, o_Pos (.int p) (.int (0 : Int32))) :: cs) rfl (fun h1 H2 => ?_)
  refine Own.W.aloadN ok d_prog_33_method_1_9 10 rfl rfl ?_
  refine Own.W.iloadN ok d_prog_33_method_1_10 11 rfl ?_
  refine Own.W.putF ok tb H2 (i := 0) (j := 1) (ty := .int) (w' := (.int q)) rfl rfl 25 10 rfl rfl Via.refl (Or.inr ⟨(tb _ (List.mem_of_getElem? (i := 26) rfl)), rfl, rfl⟩) (Own.Lay.of (nw_Pos tb) rfl) (by decide) rfl rfl d_prog_33_method_1_11 14 ((a, o_Pos (.int p) (.int q)) :: cs) rfl (fun h3 H4 => ?_)
  exact Own.W.vret ok d_prog_33_method_1_14 ⟨rfl, H4⟩
set_option maxRecDepth 65536 in
set_option maxHeartbeats 4000000 in
theorem c_tok (l : Launch) {Z : State} {a0 : Array Value} (tb : Own.Tb Z a0 tables_1) (a : Addr) (k : Addr) (s : Addr) (q : Addr) (h : Heap) (cs : List (Addr × Own.Pc)) (H : Own.HS Z h ((a, o_Tok .null .null .null) :: cs)) :
    Own.Con l Z (⟨"com/example/spikewright/spikewright/model/Token", "<init>", "(Lcom/example/spikewright/spikewright/model/Token$Kind;Ljava/lang/String;Lcom/example/spikewright/spikewright/model/Position;)V"⟩ : MethodName) prog_46_method_1_code 4 none ({ frames := 2, cells := 0, slots := 0, locals := 24 } : Room) #[(.ref a), (.ref k), (.ref s), (.ref q)] h (fun rr h' => rr = none ∧ Own.HS Z h' ((a, o_Tok (.ref k) (.ref s) (.ref q)) :: cs)) := by
  refine Own.Con.of (plainFor_of_name (by first | (simp [plainName, overriddenIn]; done) | decide +kernel)) #[.val (.ref a), .val (.ref k), .val (.ref s), .val (.ref q)] (fun m => by first | rfl | (simp [entryFrame, mkF, argsToLocals, Value.category, maxLocals]; done)) (fun K ok => ?_)
  refine Own.W.aloadN ok d_prog_46_method_1_0 1 rfl rfl ?_
  refine Own.W.callI ok tb (a := a) (argsL := []) (rest := []) 40 16 18 19 rfl rfl rfl rfl d_prog_46_method_1_1 pd_0 (c_recPos l tb a h) 0 0 0 4 ?_
  rintro _ _ ⟨rfl, rfl⟩
  show Own.W l Z _ K _ h 0 0 4 #[.val (.ref a), .val (.ref k), .val (.ref s), .val (.ref q)] []
  refine Own.W.aloadN ok d_prog_46_method_1_4 5 rfl rfl ?_
  refine Own.W.aloadN ok d_prog_46_method_1_5 6 rfl rfl ?_
  refine Own.W.putF ok tb H (i := 0) (j := 0) (ty := (.object "com/example/spikewright/spikewright/model/Token$Kind")) (w' := (.ref k)) rfl rfl 41 28 rfl rfl Via.refl (Or.inr ⟨(tb _ (List.mem_of_getElem? (i := 42) rfl)), rfl, rfl⟩) (Own.Lay.of (nw_Tok tb) rfl) (by decide) rfl rfl d_prog_46_method_1_6 9 ((a, o_Tok (.ref k) .null .null) :: cs) rfl (fun h1 H2 => ?_)
  refine Own.W.aloadN ok d_prog_46_method_1_9 10 rfl rfl ?_
  refine Own.W.aloadN ok d_prog_46_method_1_10 11 rfl rfl ?_
  refine Own.W.putF ok tb H2 (i := 0) (j := 1) (ty := (.object "java/lang/String")) (w' := (.ref s)) rfl rfl 43 28 rfl rfl Via.refl (Or.inr ⟨(tb _ (List.mem_of_getElem? (i := 44) rfl)), rfl, rfl⟩) (Own.Lay.of (nw_Tok tb) rfl) (by decide) rfl rfl d_prog_46_method_1_11 14 ((a, o_Tok (.ref k) (.ref s) .null) :: cs) rfl (fun h3 H4 => ?_)
  refine Own.W.aloadN ok d_prog_46_method_1_14 15 rfl rfl ?_
  refine Own.W.aloadN ok d_prog_46_method_1_15 16 rfl rfl ?_
  refine Own.W.putF ok tb H4 (i := 0) (j := 2) (ty := (.object "com/example/spikewright/spikewright/model/Position")) (w' := (.ref q)) rfl rfl 45 28 rfl rfl Via.refl (Or.inr ⟨(tb _ (List.mem_of_getElem? (i := 46) rfl)), rfl, rfl⟩) (Own.Lay.of (nw_Tok tb) rfl) (by decide) rfl rfl d_prog_46_method_1_16 19 ((a, o_Tok (.ref k) (.ref s) (.ref q)) :: cs) rfl (fun h5 H6 => ?_)
  exact Own.W.vret ok d_prog_46_method_1_19 ⟨rfl, H6⟩
set_option maxRecDepth 65536 in
set_option maxHeartbeats 4000000 in
theorem c_is1 (l : Launch) {Z : State} {a0 : Array Value} (tb : Own.Tb Z a0 tables_1) (a : Addr) (k : Addr) (q : Addr) (h : Heap) (F : Fld Z h a "com/example/spikewright/spikewright/model/Token" "kind" "Lcom/example/spikewright/spikewright/model/Token$Kind;" (.ref k)) (he : k = q) :
    Own.Con l Z (⟨"com/example/spikewright/spikewright/model/Token", "is", "(Lcom/example/spikewright/spikewright/model/Token$Kind;)Z"⟩ : MethodName) prog_46_method_2_code 2 (some .boolean) ({ frames := 0, cells := 0, slots := 0, locals := 0 } : Room) #[(.ref a), (.ref q)] h (fun rr h' => rr = some (.int (1 : Int32)) ∧ h = h') := by
  refine Own.Con.of (plainFor_of_name (by first | (simp [plainName, overriddenIn]; done) | decide +kernel)) #[.val (.ref a), .val (.ref q)] (fun m => by first | rfl | (simp [entryFrame, mkF, argsToLocals, Value.category, maxLocals]; done)) (fun K ok => ?_)
  refine Own.W.aloadN ok d_prog_46_method_2_0 1 rfl rfl ?_
  refine Own.W.getF ok tb 41 rfl Via.refl F d_prog_46_method_2_1 4 ?_
  refine Own.W.aloadN ok d_prog_46_method_2_4 5 rfl rfl ?_
  refine Own.W.acmp ok d_prog_46_method_2_5 8 true (decide_eq_true (congrArg Value.ref he)) ?_
  refine Own.W.iconst ok d_prog_46_method_2_8 9 (1 : Int32) rfl ?_
  refine Own.W.goto ok d_prog_46_method_2_9 13 ?_
  exact Own.W.iret ok d_prog_46_method_2_13 rfl ⟨rfl, rfl⟩
set_option maxRecDepth 65536 in
set_option maxHeartbeats 4000000 in
theorem c_is0 (l : Launch) {Z : State} {a0 : Array Value} (tb : Own.Tb Z a0 tables_1) (a : Addr) (k : Addr) (q : Addr) (h : Heap) (F : Fld Z h a "com/example/spikewright/spikewright/model/Token" "kind" "Lcom/example/spikewright/spikewright/model/Token$Kind;" (.ref k)) (he : ¬ (k = q)) :
    Own.Con l Z (⟨"com/example/spikewright/spikewright/model/Token", "is", "(Lcom/example/spikewright/spikewright/model/Token$Kind;)Z"⟩ : MethodName) prog_46_method_2_code 2 (some .boolean) ({ frames := 0, cells := 0, slots := 0, locals := 0 } : Room) #[(.ref a), (.ref q)] h (fun rr h' => rr = some (.int (0 : Int32)) ∧ h = h') := by
  refine Own.Con.of (plainFor_of_name (by first | (simp [plainName, overriddenIn]; done) | decide +kernel)) #[.val (.ref a), .val (.ref q)] (fun m => by first | rfl | (simp [entryFrame, mkF, argsToLocals, Value.category, maxLocals]; done)) (fun K ok => ?_)
  refine Own.W.aloadN ok d_prog_46_method_2_0 1 rfl rfl ?_
  refine Own.W.getF ok tb 41 rfl Via.refl F d_prog_46_method_2_1 4 ?_
  refine Own.W.aloadN ok d_prog_46_method_2_4 5 rfl rfl ?_
  refine Own.W.acmp ok d_prog_46_method_2_5 12 false (decide_eq_false fun q => he (Value.ref.inj q)) ?_
  refine Own.W.iconst ok d_prog_46_method_2_12 13 (0 : Int32) rfl ?_
  exact Own.W.iret ok d_prog_46_method_2_13 rfl ⟨rfl, rfl⟩
set_option maxRecDepth 65536 in
set_option maxHeartbeats 4000000 in
theorem c_kind (l : Launch) {Z : State} {a0 : Array Value} (tb : Own.Tb Z a0 tables_1) (w : Nat → Addr) (p : Int32) (h : Heap) (HE : Ext Z.heap h) (S_NAME : Sta Z Z.heap "com/example/spikewright/spikewright/model/Token$Kind" "NAME" "Lcom/example/spikewright/spikewright/model/Token$Kind;" (.ref (w 0))) (S_NUMBER : Sta Z Z.heap "com/example/spikewright/spikewright/model/Token$Kind" "NUMBER" "Lcom/example/spikewright/spikewright/model/Token$Kind;" (.ref (w 1))) (S_STRING : Sta Z Z.heap "com/example/spikewright/spikewright/model/Token$Kind" "STRING" "Lcom/example/spikewright/spikewright/model/Token$Kind;" (.ref (w 2))) (S_PLUS : Sta Z Z.heap "com/example/spikewright/spikewright/model/Token$Kind" "PLUS" "Lcom/example/spikewright/spikewright/model/Token$Kind;" (.ref (w 3))) (S_MINUS : Sta Z Z.heap "com/example/spikewright/spikewright/model/Token$Kind" "MINUS" "Lcom/example/spikewright/spikewright/model/Token$Kind;" (.ref (w 4))) (S_STAR : Sta Z Z.heap "com/example/spikewright/spikewright/model/Token$Kind" "STAR" "Lcom/example/spikewright/spikewright/model/Token$Kind;" (.ref (w 5))) (S_SLASH : Sta Z Z.heap "com/example/spikewright/spikewright/model/Token$Kind" "SLASH" "Lcom/example/spikewright/spikewright/model/Token$Kind;" (.ref (w 6))) (S_POWER : Sta Z Z.heap "com/example/spikewright/spikewright/model/Token$Kind" "POWER" "Lcom/example/spikewright/spikewright/model/Token$Kind;" (.ref (w 7))) (S_LEFT_PAREN : Sta Z Z.heap "com/example/spikewright/spikewright/model/Token$Kind" "LEFT_PAREN" "Lcom/example/spikewright/spikewright/model/Token$Kind;" (.ref (w 8))) (S_RIGHT_PAREN : Sta Z Z.heap "com/example/spikewright/spikewright/model/Token$Kind" "RIGHT_PAREN" "Lcom/example/spikewright/spikewright/model/Token$Kind;" (.ref (w 9))) (S_LEFT_BRACE : Sta Z Z.heap "com/example/spikewright/spikewright/model/Token$Kind" "LEFT_BRACE" "Lcom/example/spikewright/spikewright/model/Token$Kind;" (.ref (w 10))) (S_RIGHT_BRACE : Sta Z Z.heap "com/example/spikewright/spikewright/model/Token$Kind" "RIGHT_BRACE" "Lcom/example/spikewright/spikewright/model/Token$Kind;" (.ref (w 11))) (S_LEFT_BRACKET : Sta Z Z.heap "com/example/spikewright/spikewright/model/Token$Kind" "LEFT_BRACKET" "Lcom/example/spikewright/spikewright/model/Token$Kind;" (.ref (w 12))) (S_RIGHT_BRACKET : Sta Z Z.heap "com/example/spikewright/spikewright/model/Token$Kind" "RIGHT_BRACKET" "Lcom/example/spikewright/spikewright/model/Token$Kind;" (.ref (w 13))) (S_COLON : Sta Z Z.heap "com/example/spikewright/spikewright/model/Token$Kind" "COLON" "Lcom/example/spikewright/spikewright/model/Token$Kind;" (.ref (w 14))) (S_SEMICOLON : Sta Z Z.heap "com/example/spikewright/spikewright/model/Token$Kind" "SEMICOLON" "Lcom/example/spikewright/spikewright/model/Token$Kind;" (.ref (w 15))) (S_COMMA : Sta Z Z.heap "com/example/spikewright/spikewright/model/Token$Kind" "COMMA" "Lcom/example/spikewright/spikewright/model/Token$Kind;" (.ref (w 16))) (S_ASSIGN : Sta Z Z.heap "com/example/spikewright/spikewright/model/Token$Kind" "ASSIGN" "Lcom/example/spikewright/spikewright/model/Token$Kind;" (.ref (w 17))) (S_PLUS_ASSIGN : Sta Z Z.heap "com/example/spikewright/spikewright/model/Token$Kind" "PLUS_ASSIGN" "Lcom/example/spikewright/spikewright/model/Token$Kind;" (.ref (w 18))) (S_MINUS_ASSIGN : Sta Z Z.heap "com/example/spikewright/spikewright/model/Token$Kind" "MINUS_ASSIGN" "Lcom/example/spikewright/spikewright/model/Token$Kind;" (.ref (w 19))) (S_LESS : Sta Z Z.heap "com/example/spikewright/spikewright/model/Token$Kind" "LESS" "Lcom/example/spikewright/spikewright/model/Token$Kind;" (.ref (w 20))) (S_GREATER : Sta Z Z.heap "com/example/spikewright/spikewright/model/Token$Kind" "GREATER" "Lcom/example/spikewright/spikewright/model/Token$Kind;" (.ref (w 21))) (S_LESS_OR_EQUAL : Sta Z Z.heap "com/example/spikewright/spikewright/model/Token$Kind" "LESS_OR_EQUAL" "Lcom/example/spikewright/spikewright/model/Token$Kind;" (.ref (w 22))) (S_GREATER_OR_EQUAL : Sta Z Z.heap "com/example/spikewright/spikewright/model/Token$Kind" "GREATER_OR_EQUAL" "Lcom/example/spikewright/spikewright/model/Token$Kind;" (.ref (w 23))) (S_EQUAL : Sta Z Z.heap "com/example/spikewright/spikewright/model/Token$Kind" "EQUAL" "Lcom/example/spikewright/spikewright/model/Token$Kind;" (.ref (w 24))) (S_NOT_EQUAL : Sta Z Z.heap "com/example/spikewright/spikewright/model/Token$Kind" "NOT_EQUAL" "Lcom/example/spikewright/spikewright/model/Token$Kind;" (.ref (w 25))) (S_NEWLINE : Sta Z Z.heap "com/example/spikewright/spikewright/model/Token$Kind" "NEWLINE" "Lcom/example/spikewright/spikewright/model/Token$Kind;" (.ref (w 26))) (S_END : Sta Z Z.heap "com/example/spikewright/spikewright/model/Token$Kind" "END" "Lcom/example/spikewright/spikewright/model/Token$Kind;" (.ref (w 27))) (S_INVALID : Sta Z Z.heap "com/example/spikewright/spikewright/model/Token$Kind" "INVALID" "Lcom/example/spikewright/spikewright/model/Token$Kind;" (.ref (w 28))) :
    Own.Con l Z (⟨"com/example/spikewright/spikewright/model/TokenIsPinLaw", "kindOf", "(I)Lcom/example/spikewright/spikewright/model/Token$Kind;"⟩ : MethodName) method_2_code 1 (some (.object "com/example/spikewright/spikewright/model/Token$Kind")) ({ frames := 0, cells := 0, slots := 0, locals := 0 } : Room) #[(.int p)] h (fun rr h' => rr = some (.ref (kf w p)) ∧ h = h') := by
  refine Own.Con.of (plainFor_of_name (by first | (simp [plainName, overriddenIn]; done) | decide +kernel)) #[.val (.int p)] (fun m => by first | rfl | (simp [entryFrame, mkF, argsToLocals, Value.category, maxLocals]; done)) (fun K ok => ?_)
  refine Own.W.iloadN ok d_method_2_0 1 rfl ?_
  refine Own.W.iff ok d_method_2_1 8 4 (fun (hc1 : ¬ (p = (0 : Int32))) => ?_) (fun (hc1 : p = (0 : Int32)) => ?_)
  · refine Own.W.iloadN ok d_method_2_8 9 rfl ?_
    refine Own.W.iconst ok d_method_2_9 10 (1 : Int32) rfl ?_
    refine Own.W.icmp ok d_method_2_10 17 13 (fun (hc2 : ¬ (p = (1 : Int32))) => ?_) (fun (hc2 : p = (1 : Int32)) => ?_)
    · refine Own.W.iloadN ok d_method_2_17 18 rfl ?_
      refine Own.W.iconst ok d_method_2_18 19 (2 : Int32) rfl ?_
      refine Own.W.icmp ok d_method_2_19 26 22 (fun (hc3 : ¬ (p = (2 : Int32))) => ?_) (fun (hc3 : p = (2 : Int32)) => ?_)
      · refine Own.W.iloadN ok d_method_2_26 27 rfl ?_
        refine Own.W.iconst ok d_method_2_27 28 (3 : Int32) rfl ?_
        refine Own.W.icmp ok d_method_2_28 35 31 (fun (hc4 : ¬ (p = (3 : Int32))) => ?_) (fun (hc4 : p = (3 : Int32)) => ?_)
        · refine Own.W.iloadN ok d_method_2_35 36 rfl ?_
          refine Own.W.iconst ok d_method_2_36 37 (4 : Int32) rfl ?_
          refine Own.W.icmp ok d_method_2_37 44 40 (fun (hc5 : ¬ (p = (4 : Int32))) => ?_) (fun (hc5 : p = (4 : Int32)) => ?_)
          · refine Own.W.iloadN ok d_method_2_44 45 rfl ?_
            refine Own.W.iconst ok d_method_2_45 46 (5 : Int32) rfl ?_
            refine Own.W.icmp ok d_method_2_46 53 49 (fun (hc6 : ¬ (p = (5 : Int32))) => ?_) (fun (hc6 : p = (5 : Int32)) => ?_)
            · refine Own.W.iloadN ok d_method_2_53 54 rfl ?_
              refine Own.W.bipush ok d_method_2_54 56 (6 : Int32) rfl ?_
              refine Own.W.icmp ok d_method_2_56 63 59 (fun (hc7 : ¬ (p = (6 : Int32))) => ?_) (fun (hc7 : p = (6 : Int32)) => ?_)
              · refine Own.W.iloadN ok d_method_2_63 64 rfl ?_
                refine Own.W.bipush ok d_method_2_64 66 (7 : Int32) rfl ?_
                refine Own.W.icmp ok d_method_2_66 73 69 (fun (hc8 : ¬ (p = (7 : Int32))) => ?_) (fun (hc8 : p = (7 : Int32)) => ?_)
                · refine Own.W.iloadN ok d_method_2_73 74 rfl ?_
                  refine Own.W.bipush ok d_method_2_74 76 (8 : Int32) rfl ?_
                  refine Own.W.icmp ok d_method_2_76 83 79 (fun (hc9 : ¬ (p = (8 : Int32))) => ?_) (fun (hc9 : p = (8 : Int32)) => ?_)
                  · refine Own.W.iloadN ok d_method_2_83 84 rfl ?_
                    refine Own.W.bipush ok d_method_2_84 86 (9 : Int32) rfl ?_
                    refine Own.W.icmp ok d_method_2_86 93 89 (fun (hc10 : ¬ (p = (9 : Int32))) => ?_) (fun (hc10 : p = (9 : Int32)) => ?_)
                    · refine Own.W.iloadN ok d_method_2_93 94 rfl ?_
                      refine Own.W.bipush ok d_method_2_94 96 (10 : Int32) rfl ?_
                      refine Own.W.icmp ok d_method_2_96 103 99 (fun (hc11 : ¬ (p = (10 : Int32))) => ?_) (fun (hc11 : p = (10 : Int32)) => ?_)
                      · refine Own.W.iloadN ok d_method_2_103 104 rfl ?_
                        refine Own.W.bipush ok d_method_2_104 106 (11 : Int32) rfl ?_
                        refine Own.W.icmp ok d_method_2_106 113 109 (fun (hc12 : ¬ (p = (11 : Int32))) => ?_) (fun (hc12 : p = (11 : Int32)) => ?_)
                        · refine Own.W.iloadN ok d_method_2_113 114 rfl ?_
                          refine Own.W.bipush ok d_method_2_114 116 (12 : Int32) rfl ?_
                          refine Own.W.icmp ok d_method_2_116 123 119 (fun (hc13 : ¬ (p = (12 : Int32))) => ?_) (fun (hc13 : p = (12 : Int32)) => ?_)
                          · refine Own.W.iloadN ok d_method_2_123 124 rfl ?_
                            refine Own.W.bipush ok d_method_2_124 126 (13 : Int32) rfl ?_
                            refine Own.W.icmp ok d_method_2_126 133 129 (fun (hc14 : ¬ (p = (13 : Int32))) => ?_) (fun (hc14 : p = (13 : Int32)) => ?_)
                            · refine Own.W.iloadN ok d_method_2_133 134 rfl ?_
                              refine Own.W.bipush ok d_method_2_134 136 (14 : Int32) rfl ?_
                              refine Own.W.icmp ok d_method_2_136 143 139 (fun (hc15 : ¬ (p = (14 : Int32))) => ?_) (fun (hc15 : p = (14 : Int32)) => ?_)
                              · refine Own.W.iloadN ok d_method_2_143 144 rfl ?_
                                refine Own.W.bipush ok d_method_2_144 146 (15 : Int32) rfl ?_
                                refine Own.W.icmp ok d_method_2_146 153 149 (fun (hc16 : ¬ (p = (15 : Int32))) => ?_) (fun (hc16 : p = (15 : Int32)) => ?_)
                                · refine Own.W.iloadN ok d_method_2_153 154 rfl ?_
                                  refine Own.W.bipush ok d_method_2_154 156 (16 : Int32) rfl ?_
                                  refine Own.W.icmp ok d_method_2_156 163 159 (fun (hc17 : ¬ (p = (16 : Int32))) => ?_) (fun (hc17 : p = (16 : Int32)) => ?_)
                                  · refine Own.W.iloadN ok d_method_2_163 164 rfl ?_
                                    refine Own.W.bipush ok d_method_2_164 166 (17 : Int32) rfl ?_
                                    refine Own.W.icmp ok d_method_2_166 173 169 (fun (hc18 : ¬ (p = (17 : Int32))) => ?_) (fun (hc18 : p = (17 : Int32)) => ?_)
                                    · refine Own.W.iloadN ok d_method_2_173 174 rfl ?_
                                      refine Own.W.bipush ok d_method_2_174 176 (18 : Int32) rfl ?_
                                      refine Own.W.icmp ok d_method_2_176 183 179 (fun (hc19 : ¬ (p = (18 : Int32))) => ?_) (fun (hc19 : p = (18 : Int32)) => ?_)
                                      · refine Own.W.iloadN ok d_method_2_183 184 rfl ?_
                                        refine Own.W.bipush ok d_method_2_184 186 (19 : Int32) rfl ?_
                                        refine Own.W.icmp ok d_method_2_186 193 189 (fun (hc20 : ¬ (p = (19 : Int32))) => ?_) (fun (hc20 : p = (19 : Int32)) => ?_)
                                        · refine Own.W.iloadN ok d_method_2_193 194 rfl ?_
                                          refine Own.W.bipush ok d_method_2_194 196 (20 : Int32) rfl ?_
                                          refine Own.W.icmp ok d_method_2_196 203 199 (fun (hc21 : ¬ (p = (20 : Int32))) => ?_) (fun (hc21 : p = (20 : Int32)) => ?_)
                                          · refine Own.W.iloadN ok d_method_2_203 204 rfl ?_
                                            refine Own.W.bipush ok d_method_2_204 206 (21 : Int32) rfl ?_
                                            refine Own.W.icmp ok d_method_2_206 213 209 (fun (hc22 : ¬ (p = (21 : Int32))) => ?_) (fun (hc22 : p = (21 : Int32)) => ?_)
                                            · refine Own.W.iloadN ok d_method_2_213 214 rfl ?_
                                              refine Own.W.bipush ok d_method_2_214 216 (22 : Int32) rfl ?_
                                              refine Own.W.icmp ok d_method_2_216 223 219 (fun (hc23 : ¬ (p = (22 : Int32))) => ?_) (fun (hc23 : p = (22 : Int32)) => ?_)
                                              · refine Own.W.iloadN ok d_method_2_223 224 rfl ?_
                                                refine Own.W.bipush ok d_method_2_224 226 (23 : Int32) rfl ?_
                                                refine Own.W.icmp ok d_method_2_226 233 229 (fun (hc24 : ¬ (p = (23 : Int32))) => ?_) (fun (hc24 : p = (23 : Int32)) => ?_)
                                                · refine Own.W.iloadN ok d_method_2_233 234 rfl ?_
                                                  refine Own.W.bipush ok d_method_2_234 236 (24 : Int32) rfl ?_
                                                  refine Own.W.icmp ok d_method_2_236 243 239 (fun (hc25 : ¬ (p = (24 : Int32))) => ?_) (fun (hc25 : p = (24 : Int32)) => ?_)
                                                  · refine Own.W.iloadN ok d_method_2_243 244 rfl ?_
                                                    refine Own.W.bipush ok d_method_2_244 246 (25 : Int32) rfl ?_
                                                    refine Own.W.icmp ok d_method_2_246 253 249 (fun (hc26 : ¬ (p = (25 : Int32))) => ?_) (fun (hc26 : p = (25 : Int32)) => ?_)
                                                    · refine Own.W.iloadN ok d_method_2_253 254 rfl ?_
                                                      refine Own.W.bipush ok d_method_2_254 256 (26 : Int32) rfl ?_
                                                      refine Own.W.icmp ok d_method_2_256 263 259 (fun (hc27 : ¬ (p = (26 : Int32))) => ?_) (fun (hc27 : p = (26 : Int32)) => ?_)
                                                      · refine Own.W.iloadN ok d_method_2_263 264 rfl ?_
                                                        refine Own.W.bipush ok d_method_2_264 266 (27 : Int32) rfl ?_
                                                        refine Own.W.icmp ok d_method_2_266 273 269 (fun (hc28 : ¬ (p = (27 : Int32))) => ?_) (fun (hc28 : p = (27 : Int32)) => ?_)
                                                        · refine Own.W.getS ok tb 101 rfl Via.refl (S_INVALID.ext HE) d_method_2_273 276 ?_
                                                          exact Own.W.aret ok d_method_2_276 ⟨by simp [kf, hc1, hc2, hc3, hc4, hc5, hc6, hc7, hc8, hc9, hc10, hc11, hc12, hc13, hc14, hc15, hc16, hc17, hc18, hc19, hc20, hc21, hc22, hc23, hc24, hc25, hc26, hc27, hc28], rfl⟩
                                                        · refine Own.W.getS ok tb 117 rfl Via.refl (S_END.ext HE) d_method_2_269 272 ?_
                                                          exact Own.W.aret ok d_method_2_272 ⟨by simp [kf, hc1, hc2, hc3, hc4, hc5, hc6, hc7, hc8, hc9, hc10, hc11, hc12, hc13, hc14, hc15, hc16, hc17, hc18, hc19, hc20, hc21, hc22, hc23, hc24, hc25, hc26, hc27, hc28], rfl⟩
                                                      · refine Own.W.getS ok tb 109 rfl Via.refl (S_NEWLINE.ext HE) d_method_2_259 262 ?_
                                                        exact Own.W.aret ok d_method_2_262 ⟨by simp [kf, hc1, hc2, hc3, hc4, hc5, hc6, hc7, hc8, hc9, hc10, hc11, hc12, hc13, hc14, hc15, hc16, hc17, hc18, hc19, hc20, hc21, hc22, hc23, hc24, hc25, hc26, hc27], rfl⟩
                                                    · refine Own.W.getS ok tb 87 rfl Via.refl (S_NOT_EQUAL.ext HE) d_method_2_249 252 ?_
                                                      exact Own.W.aret ok d_method_2_252 ⟨by simp [kf, hc1, hc2, hc3, hc4, hc5, hc6, hc7, hc8, hc9, hc10, hc11, hc12, hc13, hc14, hc15, hc16, hc17, hc18, hc19, hc20, hc21, hc22, hc23, hc24, hc25, hc26], rfl⟩
                                                  · refine Own.W.getS ok tb 121 rfl Via.refl (S_EQUAL.ext HE) d_method_2_239 242 ?_
                                                    exact Own.W.aret ok d_method_2_242 ⟨by simp [kf, hc1, hc2, hc3, hc4, hc5, hc6, hc7, hc8, hc9, hc10, hc11, hc12, hc13, hc14, hc15, hc16, hc17, hc18, hc19, hc20, hc21, hc22, hc23, hc24, hc25], rfl⟩
                                                · refine Own.W.getS ok tb 79 rfl Via.refl (S_GREATER_OR_EQUAL.ext HE) d_method_2_229 232 ?_
                                                  exact Own.W.aret ok d_method_2_232 ⟨by simp [kf, hc1, hc2, hc3, hc4, hc5, hc6, hc7, hc8, hc9, hc10, hc11, hc12, hc13, hc14, hc15, hc16, hc17, hc18, hc19, hc20, hc21, hc22, hc23, hc24], rfl⟩
                                              · refine Own.W.getS ok tb 123 rfl Via.refl (S_LESS_OR_EQUAL.ext HE) d_method_2_219 222 ?_
                                                exact Own.W.aret ok d_method_2_222 ⟨by simp [kf, hc1, hc2, hc3, hc4, hc5, hc6, hc7, hc8, hc9, hc10, hc11, hc12, hc13, hc14, hc15, hc16, hc17, hc18, hc19, hc20, hc21, hc22, hc23], rfl⟩
                                            · refine Own.W.getS ok tb 103 rfl Via.refl (S_GREATER.ext HE) d_method_2_209 212 ?_
                                              exact Own.W.aret ok d_method_2_212 ⟨by simp [kf, hc1, hc2, hc3, hc4, hc5, hc6, hc7, hc8, hc9, hc10, hc11, hc12, hc13, hc14, hc15, hc16, hc17, hc18, hc19, hc20, hc21, hc22], rfl⟩
                                          · refine Own.W.getS ok tb 91 rfl Via.refl (S_LESS.ext HE) d_method_2_199 202 ?_
                                            exact Own.W.aret ok d_method_2_202 ⟨by simp [kf, hc1, hc2, hc3, hc4, hc5, hc6, hc7, hc8, hc9, hc10, hc11, hc12, hc13, hc14, hc15, hc16, hc17, hc18, hc19, hc20, hc21], rfl⟩
                                        · refine Own.W.getS ok tb 125 rfl Via.refl (S_MINUS_ASSIGN.ext HE) d_method_2_189 192 ?_
                                          exact Own.W.aret ok d_method_2_192 ⟨by simp [kf, hc1, hc2, hc3, hc4, hc5, hc6, hc7, hc8, hc9, hc10, hc11, hc12, hc13, hc14, hc15, hc16, hc17, hc18, hc19, hc20], rfl⟩
                                      · refine Own.W.getS ok tb 111 rfl Via.refl (S_PLUS_ASSIGN.ext HE) d_method_2_179 182 ?_
                                        exact Own.W.aret ok d_method_2_182 ⟨by simp [kf, hc1, hc2, hc3, hc4, hc5, hc6, hc7, hc8, hc9, hc10, hc11, hc12, hc13, hc14, hc15, hc16, hc17, hc18, hc19], rfl⟩
                                    · refine Own.W.getS ok tb 85 rfl Via.refl (S_ASSIGN.ext HE) d_method_2_169 172 ?_
                                      exact Own.W.aret ok d_method_2_172 ⟨by simp [kf, hc1, hc2, hc3, hc4, hc5, hc6, hc7, hc8, hc9, hc10, hc11, hc12, hc13, hc14, hc15, hc16, hc17, hc18], rfl⟩
                                  · refine Own.W.getS ok tb 97 rfl Via.refl (S_COMMA.ext HE) d_method_2_159 162 ?_
                                    exact Own.W.aret ok d_method_2_162 ⟨by simp [kf, hc1, hc2, hc3, hc4, hc5, hc6, hc7, hc8, hc9, hc10, hc11, hc12, hc13, hc14, hc15, hc16, hc17], rfl⟩
                                · refine Own.W.getS ok tb 99 rfl Via.refl (S_SEMICOLON.ext HE) d_method_2_149 152 ?_
                                  exact Own.W.aret ok d_method_2_152 ⟨by simp [kf, hc1, hc2, hc3, hc4, hc5, hc6, hc7, hc8, hc9, hc10, hc11, hc12, hc13, hc14, hc15, hc16], rfl⟩
                              · refine Own.W.getS ok tb 95 rfl Via.refl (S_COLON.ext HE) d_method_2_139 142 ?_
                                exact Own.W.aret ok d_method_2_142 ⟨by simp [kf, hc1, hc2, hc3, hc4, hc5, hc6, hc7, hc8, hc9, hc10, hc11, hc12, hc13, hc14, hc15], rfl⟩
                            · refine Own.W.getS ok tb 83 rfl Via.refl (S_RIGHT_BRACKET.ext HE) d_method_2_129 132 ?_
                              exact Own.W.aret ok d_method_2_132 ⟨by simp [kf, hc1, hc2, hc3, hc4, hc5, hc6, hc7, hc8, hc9, hc10, hc11, hc12, hc13, hc14], rfl⟩
                          · refine Own.W.getS ok tb 89 rfl Via.refl (S_LEFT_BRACKET.ext HE) d_method_2_119 122 ?_
                            exact Own.W.aret ok d_method_2_122 ⟨by simp [kf, hc1, hc2, hc3, hc4, hc5, hc6, hc7, hc8, hc9, hc10, hc11, hc12, hc13], rfl⟩
                        · refine Own.W.getS ok tb 105 rfl Via.refl (S_RIGHT_BRACE.ext HE) d_method_2_109 112 ?_
                          exact Own.W.aret ok d_method_2_112 ⟨by simp [kf, hc1, hc2, hc3, hc4, hc5, hc6, hc7, hc8, hc9, hc10, hc11, hc12], rfl⟩
                      · refine Own.W.getS ok tb 115 rfl Via.refl (S_LEFT_BRACE.ext HE) d_method_2_99 102 ?_
                        exact Own.W.aret ok d_method_2_102 ⟨by simp [kf, hc1, hc2, hc3, hc4, hc5, hc6, hc7, hc8, hc9, hc10, hc11], rfl⟩
                    · refine Own.W.getS ok tb 119 rfl Via.refl (S_RIGHT_PAREN.ext HE) d_method_2_89 92 ?_
                      exact Own.W.aret ok d_method_2_92 ⟨by simp [kf, hc1, hc2, hc3, hc4, hc5, hc6, hc7, hc8, hc9, hc10], rfl⟩
                  · refine Own.W.getS ok tb 113 rfl Via.refl (S_LEFT_PAREN.ext HE) d_method_2_79 82 ?_
                    exact Own.W.aret ok d_method_2_82 ⟨by simp [kf, hc1, hc2, hc3, hc4, hc5, hc6, hc7, hc8, hc9], rfl⟩
                · refine Own.W.getS ok tb 107 rfl Via.refl (S_POWER.ext HE) d_method_2_69 72 ?_
                  exact Own.W.aret ok d_method_2_72 ⟨by simp [kf, hc1, hc2, hc3, hc4, hc5, hc6, hc7, hc8], rfl⟩
              · refine Own.W.getS ok tb 75 rfl Via.refl (S_SLASH.ext HE) d_method_2_59 62 ?_
                exact Own.W.aret ok d_method_2_62 ⟨by simp [kf, hc1, hc2, hc3, hc4, hc5, hc6, hc7], rfl⟩
            · refine Own.W.getS ok tb 77 rfl Via.refl (S_STAR.ext HE) d_method_2_49 52 ?_
              exact Own.W.aret ok d_method_2_52 ⟨by simp [kf, hc1, hc2, hc3, hc4, hc5, hc6], rfl⟩
          · refine Own.W.getS ok tb 54 rfl Via.refl (S_MINUS.ext HE) d_method_2_40 43 ?_
            exact Own.W.aret ok d_method_2_43 ⟨by simp [kf, hc1, hc2, hc3, hc4, hc5], rfl⟩
        · refine Own.W.getS ok tb 47 rfl Via.refl (S_PLUS.ext HE) d_method_2_31 34 ?_
          exact Own.W.aret ok d_method_2_34 ⟨by simp [kf, hc1, hc2, hc3, hc4], rfl⟩
      · refine Own.W.getS ok tb 81 rfl Via.refl (S_STRING.ext HE) d_method_2_22 25 ?_
        exact Own.W.aret ok d_method_2_25 ⟨by simp [kf, hc1, hc2, hc3], rfl⟩
    · refine Own.W.getS ok tb 93 rfl Via.refl (S_NUMBER.ext HE) d_method_2_13 16 ?_
      exact Own.W.aret ok d_method_2_16 ⟨by simp [kf, hc1, hc2], rfl⟩
  · refine Own.W.getS ok tb 34 rfl Via.refl (S_NAME.ext HE) d_method_2_4 7 ?_
    exact Own.W.aret ok d_method_2_7 ⟨by simp [kf, hc1], rfl⟩
set_option maxRecDepth 65536 in
set_option maxHeartbeats 4000000 in
theorem c_can (l : Launch) {Z : State} {a0 : Array Value} (tb : Own.Tb Z a0 tables_1) (p : Int32) (h : Heap) (hp : ¬ ((255 : Int32) < p)) :
    Own.Con l Z (⟨"java/lang/StringLatin1", "canEncode", "(C)Z"⟩ : MethodName) jdk_43_method_3_code 1 (some .boolean) ({ frames := 0, cells := 0, slots := 0, locals := 0 } : Room) #[(.int p)] h (fun rr h' => rr = some (.int (1 : Int32)) ∧ h = h') := by
  refine Own.Con.of (plainFor_of_name (by first | (simp [plainName, overriddenIn]; done) | decide +kernel)) #[.val (.int p)] (fun m => by first | rfl | (simp [entryFrame, mkF, argsToLocals, Value.category, maxLocals]; done)) (fun K ok => ?_)
  refine Own.W.iloadN ok d_jdk_43_method_3_0 1 rfl ?_
  refine Own.W.sipush ok d_jdk_43_method_3_1 4 (255 : Int32) rfl ?_
  refine Own.W.icmpF ok d_jdk_43_method_3_4 7 hp ?_
  refine Own.W.iconst ok d_jdk_43_method_3_7 8 (1 : Int32) rfl ?_
  refine Own.W.goto ok d_jdk_43_method_3_8 12 ?_
  exact Own.W.iret ok d_jdk_43_method_3_12 rfl ⟨rfl, rfl⟩
set_option maxRecDepth 65536 in
set_option maxHeartbeats 4000000 in
theorem c_toB (l : Launch) {Z : State} {a0 : Array Value} (tb : Own.Tb Z a0 tables_1) (p : Int32) (h : Heap) (cs : List (Addr × Own.Pc)) (H : Own.HS Z h (cs)) :
    Own.Con l Z (⟨"java/lang/StringLatin1", "toBytes", "(C)[B"⟩ : MethodName) jdk_43_method_46_code 1 (some (.array .byte)) ({ frames := 0, cells := 1, slots := 1, locals := 0 } : Room) #[(.int p)] h (fun rr h' => ∃ (b : Addr) (kb : ClassId), rr = some (.ref b) ∧ Own.HS Z h' ((b, .inr (.byte, kb, [(.int (nar .byte (p.toInt8.toInt32)))])) :: cs)) := by
  refine Own.Con.of (plainFor_of_name (by first | (simp [plainName, overriddenIn]; done) | decide +kernel)) #[.val (.int p)] (fun m => by first | rfl | (simp [entryFrame, mkF, argsToLocals, Value.category, maxLocals]; done)) (fun K ok => ?_)
  refine Own.W.iconst ok d_jdk_43_method_46_0 1 (1 : Int32) rfl ?_
  refine Own.W.newP ok tb H 4 rfl d_jdk_43_method_46_1 1 [(.int (0 : Int32))] rfl 1 1 3 (by decide) (by decide) (fun a1 k2 h3 H4 => ?_)
  show Own.W l Z _ K _ h3 1 1 3 #[.val (.int p)] [(.ref a1)]
  refine Own.W.dup ok d_jdk_43_method_46_3 4 rfl ?_
  refine Own.W.iconst ok d_jdk_43_method_46_4 5 (0 : Int32) rfl ?_
  refine Own.W.iloadN ok d_jdk_43_method_46_5 6 rfl ?_
  refine Own.W.i2b ok d_jdk_43_method_46_6 7 ?_
  refine Own.W.bast ok H4 (i := 0) rfl (by decide) (Nat.le_of_ble_eq_true rfl) (nar .byte (p.toInt8.toInt32)) rfl d_jdk_43_method_46_7 8 ((a1, .inr (.byte, k2, [(.int (nar .byte (p.toInt8.toInt32)))])) :: cs) rfl (fun h5 H6 => ?_)
  exact Own.W.aret ok d_jdk_43_method_46_8 ⟨a1, k2, rfl, H6⟩
set_option maxRecDepth 65536 in
set_option maxHeartbeats 4000000 in
theorem c_sini (l : Launch) {Z : State} {a0 : Array Value} (tb : Own.Tb Z a0 tables_1) (a : Addr) (v : Addr) (h : Heap) (cs : List (Addr × Own.Pc)) (H : Own.HS Z h ((a, o_Str .null (.int (0 : Int32))) :: cs)) :
    Own.Con l Z (⟨"java/lang/String", "<init>", "([BB)V"⟩ : MethodName) jdk_42_method_151_code 3 none ({ frames := 1, cells := 0, slots := 0, locals := 12 } : Room) #[(.ref a), (.ref v), (.int (0 : Int32))] h (fun rr h' => rr = none ∧ Own.HS Z h' ((a, o_Str (.ref v) (.int (0 : Int32))) :: cs)) := by
  refine Own.Con.of (plainFor_of_name (by first | (simp [plainName, overriddenIn]; done) | decide +kernel)) #[.val (.ref a), .val (.ref v), .val (.int (0 : Int32))] (fun m => by first | rfl | (simp [entryFrame, mkF, argsToLocals, Value.category, maxLocals]; done)) (fun K ok => ?_)
  refine Own.W.aloadN ok d_jdk_42_method_151_0 1 rfl rfl ?_
  refine Own.W.initO ok tb 72 21 22 rfl rfl rfl d_jdk_42_method_151_1 0 4 ?_
  refine Own.W.aloadN ok d_jdk_42_method_151_4 5 rfl rfl ?_
  refine Own.W.aloadN ok d_jdk_42_method_151_5 6 rfl rfl ?_
  refine Own.W.putF ok tb H (i := 0) (j := 0) (ty := (.array .byte)) (w' := (.ref v)) rfl rfl 73 3 rfl rfl Via.refl (Or.inr ⟨(tb _ (List.mem_of_getElem? (i := 5) rfl)), rfl, rfl⟩) (Own.Lay.of (nw_Str tb) rfl) (by decide) rfl rfl d_jdk_42_method_151_6 9 ((a, o_Str (.ref v) (.int (0 : Int32))) :: cs) rfl (fun h1 H2 => ?_)
  refine Own.W.aloadN ok d_jdk_42_method_151_9 10 rfl rfl ?_
  refine Own.W.iloadN ok d_jdk_42_method_151_10 11 rfl ?_
  refine Own.W.putF ok tb H2 (i := 0) (j := 1) (ty := .byte) (w' := (.int (0 : Int32))) rfl rfl 74 3 rfl rfl Via.refl (Or.inr ⟨(tb _ (List.mem_of_getElem? (i := 6) rfl)), rfl, rfl⟩) (Own.Lay.of (nw_Str tb) rfl) (by decide) rfl rfl d_jdk_42_method_151_11 14 ((a, o_Str (.ref v) (.int (0 : Int32))) :: cs) rfl (fun h3 H4 => ?_)
  exact Own.W.vret ok d_jdk_42_method_151_14 ⟨rfl, H4⟩
set_option maxRecDepth 65536 in
set_option maxHeartbeats 4000000 in
theorem c_vo (l : Launch) {Z : State} {a0 : Array Value} (tb : Own.Tb Z a0 tables_1) (c0 : Int32) (p : Int32) (h : Heap) (cs : List (Addr × Own.Pc)) (H : Own.HS Z h (cs)) (SC : Sta Z Z.heap "java/lang/String" "COMPACT_STRINGS" "Z" (.int c0)) (hc0 : ¬ (c0 = (0 : Int32))) (hp : ¬ ((255 : Int32) < p)) :
    Own.Con l Z (⟨"java/lang/String", "valueOf", "(C)Ljava/lang/String;"⟩ : MethodName) jdk_42_method_139_code 1 (some (.object "java/lang/String")) ({ frames := 2, cells := 2, slots := 5, locals := 48 } : Room) #[(.int p)] h (fun rr h' => ∃ (s : Addr) (b : Addr) (kb : ClassId), rr = some (.ref s) ∧ Own.HS Z h' ((s, o_Str (.ref b) (.int (0 : Int32))) :: (b, .inr (.byte, kb, [(.int (nar .byte (p.toInt8.toInt32)))])) :: cs)) := by
  refine Own.Con.of (plainFor_of_name (by first | (simp [plainName, overriddenIn]; done) | decide +kernel)) #[.val (.int p)] (fun m => by first | rfl | (simp [entryFrame, mkF, argsToLocals, Value.category, maxLocals]; done)) (fun K ok => ?_)
  refine Own.W.getS ok tb 59 rfl Via.refl (H.sta SC) d_jdk_42_method_139_0 3 ?_
  refine Own.W.ifF ok d_jdk_42_method_139_3 6 hc0 ?_
  refine Own.W.iloadN ok d_jdk_42_method_139_6 7 rfl ?_
  refine Own.W.callS ok tb (argsL := [(.int p)]) (rest := []) 60 61 62 63 rfl rfl rfl rfl d_jdk_42_method_139_7 pd_1 (c_can l tb p h hp) 0 0 0 10 ?_
  rintro _ _ ⟨rfl, rfl⟩
  show Own.W l Z _ K _ h 0 0 10 #[.val (.int p)] [(.int (1 : Int32))]
  refine Own.W.ifF ok d_jdk_42_method_139_10 13 (by decide : ¬ ((1 : Int32) = (0 : Int32))) ?_
  refine Own.W.new ok tb H 64 3 2 rfl rfl rfl (nw_Str tb) d_jdk_42_method_139_13 1 4 16 (fun a1 h2 H3 => ?_)
  show Own.W l Z _ K _ h2 1 4 16 #[.val (.int p)] [(.ref a1)]
  refine Own.W.dup ok d_jdk_42_method_139_16 17 rfl ?_
  refine Own.W.iloadN ok d_jdk_42_method_139_17 18 rfl ?_
  refine Own.W.callS ok tb (argsL := [(.int p)]) (rest := [(.ref a1), (.ref a1)]) 65 66 62 67 rfl rfl rfl rfl d_jdk_42_method_139_18 pd_2 (c_toB l tb p h2 ((a1, o_Str .null (.int (0 : Int32))) :: cs) H3) 2 2 5 21 ?_
  rintro _ h4 ⟨b6, kb7, rfl, H5⟩
  show Own.W l Z _ K _ h4 2 5 21 #[.val (.int p)] [(.ref b6), (.ref a1), (.ref a1)]
  refine Own.W.iconst ok d_jdk_42_method_139_21 22 (0 : Int32) rfl ?_
  have H8 : Own.HS Z h4 ((a1, o_Str .null (.int (0 : Int32))) :: (b6, .inr (.byte, kb7, [(.int (nar .byte (p.toInt8.toInt32)))])) :: cs) := H5.pull 1 _ rfl rfl
  refine Own.W.callI ok tb (a := a1) (argsL := [(.ref b6), (.int (0 : Int32))]) (rest := [(.ref a1)]) 68 69 2 71 rfl rfl rfl rfl d_jdk_42_method_139_22 pd_3 (c_sini l tb a1 b6 h4 ((b6, .inr (.byte, kb7, [(.int (nar .byte (p.toInt8.toInt32)))])) :: cs) H8) 1 2 5 25 ?_
  rintro _ h9 ⟨rfl, H10⟩
  show Own.W l Z _ K _ h9 2 5 25 #[.val (.int p)] [(.ref a1)]
  exact Own.W.aret ok d_jdk_42_method_139_25 ⟨a1, b6, kb7, rfl, H10⟩
theorem md_rng (x : Int32) : 0 ≤ ((x &&& 2147483647) % 29).toInt ∧ ((x &&& 2147483647) % 29).toInt < 29 := by
  have h1 := c_and x 2147483647 (by decide)
  have h2 := (c_irem (x &&& 2147483647) 29 29 (by decide)).1 h1.1
  omega
theorem kf_ord {Z : State} {h : Heap} {w : Nat → Addr} (FX : ∀ i, i < 29 → Fld Z h (w i) "java/lang/Enum" "ordinal" "I" (.int i.toInt32)) {p : Int32} (hp : 0 ≤ p.toInt ∧ p.toInt < 29) : Fld Z h (kf w p) "java/lang/Enum" "ordinal" "I" (.int p) := by
  have e : p = p.toInt.toNat.toInt32 := Int32.toInt_inj.mp (by rw [len_toInt (by omega)]; omega)
  have hk : ∀ i, i < 29 → kf w i.toInt32 = w i := by
    intro i hi
    rcases i with _ | _ | _ | _ | _ | _ | _ | _ | _ | _ | _ | _ | _ | _ | _ | _ | _ | _ | _ | _ | _ | _ | _ | _ | _ | _ | _ | _ | _ | i
    · rfl
    · rfl
    · rfl
    · rfl
    · rfl
    · rfl
    · rfl
    · rfl
    · rfl
    · rfl
    · rfl
    · rfl
    · rfl
    · rfl
    · rfl
    · rfl
    · rfl
    · rfl
    · rfl
    · rfl
    · rfl
    · rfl
    · rfl
    · rfl
    · rfl
    · rfl
    · rfl
    · rfl
    · rfl
    · omega
  have hl : p.toInt.toNat < 29 := by omega
  have f := FX _ hl
  rw [← hk _ hl, ← e] at f
  exact f
theorem ch_ok (x : Int32) : ¬ ((255 : Int32) < (x &&& 255)) := by
  have h1 := c_and x 255 (by decide)
  rw [Int32.lt_iff_toInt_lt]
  simp only [Int32.reduceToInt] at h1 ⊢
  omega

set_option maxRecDepth 65536 in
set_option maxHeartbeats 4000000 in
theorem c_rest (l : Launch) {Z : State} {a0 : Array Value} (tb : Own.Tb Z a0 tables_1) (u0 u1 u2 u3 u4 u5 i j k8 : Int32) (w : Nat → Addr) (K : Own.Ctx) (ok : Own.Ok Z K x code maxLocals ret) (Q : Option Value → Heap → Prop) (h : Heap) (cs : List (Addr × Own.Pc)) (H : Own.HS Z h cs) (s0 : Addr) (S_NAME : Sta Z Z.heap "com/example/spikewright/spikewright/model/Token$Kind" "NAME" "Lcom/example/spikewright/spikewright/model/Token$Kind;" (.ref (w 0))) (S_NUMBER : Sta Z Z.heap "com/example/spikewright/spikewright/model/Token$Kind" "NUMBER" "Lcom/example/spikewright/spikewright/model/Token$Kind;" (.ref (w 1))) (S_STRING : Sta Z Z.heap "com/example/spikewright/spikewright/model/Token$Kind" "STRING" "Lcom/example/spikewright/spikewright/model/Token$Kind;" (.ref (w 2))) (S_PLUS : Sta Z Z.heap "com/example/spikewright/spikewright/model/Token$Kind" "PLUS" "Lcom/example/spikewright/spikewright/model/Token$Kind;" (.ref (w 3))) (S_MINUS : Sta Z Z.heap "com/example/spikewright/spikewright/model/Token$Kind" "MINUS" "Lcom/example/spikewright/spikewright/model/Token$Kind;" (.ref (w 4))) (S_STAR : Sta Z Z.heap "com/example/spikewright/spikewright/model/Token$Kind" "STAR" "Lcom/example/spikewright/spikewright/model/Token$Kind;" (.ref (w 5))) (S_SLASH : Sta Z Z.heap "com/example/spikewright/spikewright/model/Token$Kind" "SLASH" "Lcom/example/spikewright/spikewright/model/Token$Kind;" (.ref (w 6))) (S_POWER : Sta Z Z.heap "com/example/spikewright/spikewright/model/Token$Kind" "POWER" "Lcom/example/spikewright/spikewright/model/Token$Kind;" (.ref (w 7))) (S_LEFT_PAREN : Sta Z Z.heap "com/example/spikewright/spikewright/model/Token$Kind" "LEFT_PAREN" "Lcom/example/spikewright/spikewright/model/Token$Kind;" (.ref (w 8))) (S_RIGHT_PAREN : Sta Z Z.heap "com/example/spikewright/spikewright/model/Token$Kind" "RIGHT_PAREN" "Lcom/example/spikewright/spikewright/model/Token$Kind;" (.ref (w 9))) (S_LEFT_BRACE : Sta Z Z.heap "com/example/spikewright/spikewright/model/Token$Kind" "LEFT_BRACE" "Lcom/example/spikewright/spikewright/model/Token$Kind;" (.ref (w 10))) (S_RIGHT_BRACE : Sta Z Z.heap "com/example/spikewright/spikewright/model/Token$Kind" "RIGHT_BRACE" "Lcom/example/spikewright/spikewright/model/Token$Kind;" (.ref (w 11))) (S_LEFT_BRACKET : Sta Z Z.heap "com/example/spikewright/spikewright/model/Token$Kind" "LEFT_BRACKET" "Lcom/example/spikewright/spikewright/model/Token$Kind;" (.ref (w 12))) (S_RIGHT_BRACKET : Sta Z Z.heap "com/example/spikewright/spikewright/model/Token$Kind" "RIGHT_BRACKET" "Lcom/example/spikewright/spikewright/model/Token$Kind;" (.ref (w 13))) (S_COLON : Sta Z Z.heap "com/example/spikewright/spikewright/model/Token$Kind" "COLON" "Lcom/example/spikewright/spikewright/model/Token$Kind;" (.ref (w 14))) (S_SEMICOLON : Sta Z Z.heap "com/example/spikewright/spikewright/model/Token$Kind" "SEMICOLON" "Lcom/example/spikewright/spikewright/model/Token$Kind;" (.ref (w 15))) (S_COMMA : Sta Z Z.heap "com/example/spikewright/spikewright/model/Token$Kind" "COMMA" "Lcom/example/spikewright/spikewright/model/Token$Kind;" (.ref (w 16))) (S_ASSIGN : Sta Z Z.heap "com/example/spikewright/spikewright/model/Token$Kind" "ASSIGN" "Lcom/example/spikewright/spikewright/model/Token$Kind;" (.ref (w 17))) (S_PLUS_ASSIGN : Sta Z Z.heap "com/example/spikewright/spikewright/model/Token$Kind" "PLUS_ASSIGN" "Lcom/example/spikewright/spikewright/model/Token$Kind;" (.ref (w 18))) (S_MINUS_ASSIGN : Sta Z Z.heap "com/example/spikewright/spikewright/model/Token$Kind" "MINUS_ASSIGN" "Lcom/example/spikewright/spikewright/model/Token$Kind;" (.ref (w 19))) (S_LESS : Sta Z Z.heap "com/example/spikewright/spikewright/model/Token$Kind" "LESS" "Lcom/example/spikewright/spikewright/model/Token$Kind;" (.ref (w 20))) (S_GREATER : Sta Z Z.heap "com/example/spikewright/spikewright/model/Token$Kind" "GREATER" "Lcom/example/spikewright/spikewright/model/Token$Kind;" (.ref (w 21))) (S_LESS_OR_EQUAL : Sta Z Z.heap "com/example/spikewright/spikewright/model/Token$Kind" "LESS_OR_EQUAL" "Lcom/example/spikewright/spikewright/model/Token$Kind;" (.ref (w 22))) (S_GREATER_OR_EQUAL : Sta Z Z.heap "com/example/spikewright/spikewright/model/Token$Kind" "GREATER_OR_EQUAL" "Lcom/example/spikewright/spikewright/model/Token$Kind;" (.ref (w 23))) (S_EQUAL : Sta Z Z.heap "com/example/spikewright/spikewright/model/Token$Kind" "EQUAL" "Lcom/example/spikewright/spikewright/model/Token$Kind;" (.ref (w 24))) (S_NOT_EQUAL : Sta Z Z.heap "com/example/spikewright/spikewright/model/Token$Kind" "NOT_EQUAL" "Lcom/example/spikewright/spikewright/model/Token$Kind;" (.ref (w 25))) (S_NEWLINE : Sta Z Z.heap "com/example/spikewright/spikewright/model/Token$Kind" "NEWLINE" "Lcom/example/spikewright/spikewright/model/Token$Kind;" (.ref (w 26))) (S_END : Sta Z Z.heap "com/example/spikewright/spikewright/model/Token$Kind" "END" "Lcom/example/spikewright/spikewright/model/Token$Kind;" (.ref (w 27))) (S_INVALID : Sta Z Z.heap "com/example/spikewright/spikewright/model/Token$Kind" "INVALID" "Lcom/example/spikewright/spikewright/model/Token$Kind;" (.ref (w 28)))
    (FX : ∀ i, i < 29 → Fld Z Z.heap (w i) "java/lang/Enum" "ordinal" "I" (.int i.toInt32)) (hi : 0 ≤ i.toInt ∧ i.toInt < 29) (hj : 0 ≤ j.toInt ∧ j.toInt < 29) (hQ : ∀ hh, h.size ≤ hh.size → Q (some (.int 1)) hh) :
    Own.W l Z room_1 K Q h 2 5 53 #[.val (.int u0), .val (.int u1), .val (.int u2), .val (.int u3), .val (.int u4), .val (.int u5), .val (.int i), .val (.int j), .val (.int k8), .unset, .unset, .unset, .unset] [.ref s0] := by
  refine Own.W.astore ok at_53 55 #[.val (.int u0), .val (.int u1), .val (.int u2), .val (.int u3), .val (.int u4), .val (.int u5), .val (.int i), .val (.int j), .val (.int k8), .val (.ref s0), .unset, .unset, .unset] rfl rfl ?_
  refine Own.W.newB ok tb H 9 10 11 rfl rfl rfl (nw_Pos tb) at_55 3 7 58 (fun a1 h2 hb0 H3 => ?_)
  show Own.W l Z _ K _ h2 3 7 58 #[.val (.int u0), .val (.int u1), .val (.int u2), .val (.int u3), .val (.int u4), .val (.int u5), .val (.int i), .val (.int j), .val (.int k8), .val (.ref s0), .unset, .unset, .unset] [(.ref a1)]
  refine Own.W.dup ok at_58 59 rfl ?_
  refine Own.W.iload ok at_59 61 rfl ?_
  refine Own.W.iload ok at_61 63 rfl ?_
  refine Own.W.callI ok tb (a := a1) (argsL := [(.int u4), (.int u5)]) (rest := [(.ref a1)]) 12 13 11 14 rfl rfl rfl rfl at_63 pd_4 (c_pos l tb a1 u4 u5 h2 (cs) H3) 1 3 7 66 ?_
  rintro _ h4 ⟨rfl, H5⟩
  show Own.W l Z _ K _ h4 3 7 66 #[.val (.int u0), .val (.int u1), .val (.int u2), .val (.int u3), .val (.int u4), .val (.int u5), .val (.int i), .val (.int j), .val (.int k8), .val (.ref s0), .unset, .unset, .unset] [(.ref a1)]
  refine Own.W.astore ok at_66 68 #[.val (.int u0), .val (.int u1), .val (.int u2), .val (.int u3), .val (.int u4), .val (.int u5), .val (.int i), .val (.int j), .val (.int k8), .val (.ref s0), .val (.ref a1), .unset, .unset] rfl rfl ?_
  refine Own.W.new ok tb H5 27 28 29 rfl rfl rfl (nw_Tok tb) at_68 4 10 71 (fun a6 h7 H8 => ?_)
  show Own.W l Z _ K _ h7 4 10 71 #[.val (.int u0), .val (.int u1), .val (.int u2), .val (.int u3), .val (.int u4), .val (.int u5), .val (.int i), .val (.int j), .val (.int k8), .val (.ref s0), .val (.ref a1), .unset, .unset] [(.ref a6)]
  refine Own.W.dup ok at_71 72 rfl ?_
  refine Own.W.iload ok at_72 74 rfl ?_
  refine Own.W.callS ok tb (argsL := [(.int i)]) (rest := [(.ref a6), (.ref a6)]) 30 31 32 33 rfl rfl rfl rfl at_74 pd_5 (c_kind l tb w i h7 H8.1 S_NAME S_NUMBER S_STRING S_PLUS S_MINUS S_STAR S_SLASH S_POWER S_LEFT_PAREN S_RIGHT_PAREN S_LEFT_BRACE S_RIGHT_BRACE S_LEFT_BRACKET S_RIGHT_BRACKET S_COLON S_SEMICOLON S_COMMA S_ASSIGN S_PLUS_ASSIGN S_MINUS_ASSIGN S_LESS S_GREATER S_LESS_OR_EQUAL S_GREATER_OR_EQUAL S_EQUAL S_NOT_EQUAL S_NEWLINE S_END S_INVALID) 2 4 10 77 ?_
  rintro _ _ ⟨rfl, rfl⟩
  show Own.W l Z _ K _ h7 4 10 77 #[.val (.int u0), .val (.int u1), .val (.int u2), .val (.int u3), .val (.int u4), .val (.int u5), .val (.int i), .val (.int j), .val (.int k8), .val (.ref s0), .val (.ref a1), .unset, .unset] [(.ref (kf w i)), (.ref a6), (.ref a6)]
  refine Own.W.aload ok at_77 79 rfl rfl ?_
  refine Own.W.aload ok at_79 81 rfl rfl ?_
  refine Own.W.callI ok tb (a := a6) (argsL := [(.ref (kf w i)), (.ref s0), (.ref a1)]) (rest := [(.ref a6)]) 37 38 29 39 rfl rfl rfl rfl at_81 pd_6 (c_tok l tb a6 (kf w i) s0 a1 h7 ((a1, o_Pos (.int u4) (.int u5)) :: cs) H8) 1 4 10 84 ?_
  rintro _ h9 ⟨rfl, H10⟩
  show Own.W l Z _ K _ h9 4 10 84 #[.val (.int u0), .val (.int u1), .val (.int u2), .val (.int u3), .val (.int u4), .val (.int u5), .val (.int i), .val (.int j), .val (.int k8), .val (.ref s0), .val (.ref a1), .unset, .unset] [(.ref a6)]
  refine Own.W.astore ok at_84 86 #[.val (.int u0), .val (.int u1), .val (.int u2), .val (.int u3), .val (.int u4), .val (.int u5), .val (.int i), .val (.int j), .val (.int k8), .val (.ref s0), .val (.ref a1), .val (.ref a6), .unset] rfl rfl ?_
  refine Own.W.iload ok at_86 88 rfl ?_
  refine Own.W.iload ok at_88 90 rfl ?_
  refine Own.W.icmp ok at_90 97 93 (fun (hc11 : ¬ (i = j)) => ?_) (fun (hc11 : i = j) => ?_)
  · refine Own.W.iconst ok at_97 98 (0 : Int32) rfl ?_
    refine Own.W.istore ok at_98 100 #[.val (.int u0), .val (.int u1), .val (.int u2), .val (.int u3), .val (.int u4), .val (.int u5), .val (.int i), .val (.int j), .val (.int k8), .val (.ref s0), .val (.ref a1), .val (.ref a6), .val (.int (0 : Int32))] rfl ?_
    refine Own.W.aload ok at_100 102 rfl rfl ?_
    refine Own.W.iload ok at_102 104 rfl ?_
    refine Own.W.callS ok tb (argsL := [(.int j)]) (rest := [(.ref a6)]) 30 31 32 33 rfl rfl rfl rfl at_104 pd_5 (c_kind l tb w j h9 H10.1 S_NAME S_NUMBER S_STRING S_PLUS S_MINUS S_STAR S_SLASH S_POWER S_LEFT_PAREN S_RIGHT_PAREN S_LEFT_BRACE S_RIGHT_BRACE S_LEFT_BRACKET S_RIGHT_BRACKET S_COLON S_SEMICOLON S_COMMA S_ASSIGN S_PLUS_ASSIGN S_MINUS_ASSIGN S_LESS S_GREATER S_LESS_OR_EQUAL S_GREATER_OR_EQUAL S_EQUAL S_NOT_EQUAL S_NEWLINE S_END S_INVALID) 1 4 10 107 ?_
    rintro _ _ ⟨rfl, rfl⟩
    show Own.W l Z _ K _ h9 4 10 107 #[.val (.int u0), .val (.int u1), .val (.int u2), .val (.int u3), .val (.int u4), .val (.int u5), .val (.int i), .val (.int j), .val (.int k8), .val (.ref s0), .val (.ref a1), .val (.ref a6), .val (.int (0 : Int32))] [(.ref (kf w j)), (.ref a6)]
    refine Own.W.callV ok tb (a := a6) (argsL := [(.ref (kf w j))]) (rest := []) 49 50 52 51 53 29 rfl rfl rfl rfl rfl rfl (notFace_of_selects (args := #[]) (mvT ok.2.1 (tb _ (List.mem_of_getElem? (i := 52) rfl)))) (H10.exa (i := 0) rfl) at_107 pd_7 (c_is0 l tb a6 (kf w i) (kf w j) h9 (H10.fld (i := 0) (j := 0) rfl rfl) (fun q => (Fld.ne (kf_ord FX hi) (kf_ord FX hj) (fun e => hc11 (Value.int.inj e))) q)) 0 4 10 110 ?_
    rintro _ _ ⟨rfl, rfl⟩
    show Own.W l Z _ K _ h9 4 10 110 #[.val (.int u0), .val (.int u1), .val (.int u2), .val (.int u3), .val (.int u4), .val (.int u5), .val (.int i), .val (.int j), .val (.int k8), .val (.ref s0), .val (.ref a1), .val (.ref a6), .val (.int (0 : Int32))] [(.int (0 : Int32))]
    refine Own.W.iload ok at_110 112 rfl ?_
    refine Own.W.icmpF ok at_112 115 (by decide : (0 : Int32) = (0 : Int32)) ?_
    refine Own.W.iconst ok at_115 116 (1 : Int32) rfl ?_
    refine Own.W.goto ok at_116 120 ?_
    exact Own.W.iret ok at_120 rfl (hQ _ (Nat.le_trans hb0 (Nat.le_of_lt (H10.at (i := 1) rfl).2.lt)))
  · refine Own.W.iconst ok at_93 94 (1 : Int32) rfl ?_
    refine Own.W.goto ok at_94 98 ?_
    refine Own.W.istore ok at_98 100 #[.val (.int u0), .val (.int u1), .val (.int u2), .val (.int u3), .val (.int u4), .val (.int u5), .val (.int i), .val (.int j), .val (.int k8), .val (.ref s0), .val (.ref a1), .val (.ref a6), .val (.int (1 : Int32))] rfl ?_
    refine Own.W.aload ok at_100 102 rfl rfl ?_
    refine Own.W.iload ok at_102 104 rfl ?_
    refine Own.W.callS ok tb (argsL := [(.int j)]) (rest := [(.ref a6)]) 30 31 32 33 rfl rfl rfl rfl at_104 pd_5 (c_kind l tb w j h9 H10.1 S_NAME S_NUMBER S_STRING S_PLUS S_MINUS S_STAR S_SLASH S_POWER S_LEFT_PAREN S_RIGHT_PAREN S_LEFT_BRACE S_RIGHT_BRACE S_LEFT_BRACKET S_RIGHT_BRACKET S_COLON S_SEMICOLON S_COMMA S_ASSIGN S_PLUS_ASSIGN S_MINUS_ASSIGN S_LESS S_GREATER S_LESS_OR_EQUAL S_GREATER_OR_EQUAL S_EQUAL S_NOT_EQUAL S_NEWLINE S_END S_INVALID) 1 4 10 107 ?_
    rintro _ _ ⟨rfl, rfl⟩
    show Own.W l Z _ K _ h9 4 10 107 #[.val (.int u0), .val (.int u1), .val (.int u2), .val (.int u3), .val (.int u4), .val (.int u5), .val (.int i), .val (.int j), .val (.int k8), .val (.ref s0), .val (.ref a1), .val (.ref a6), .val (.int (1 : Int32))] [(.ref (kf w j)), (.ref a6)]
    refine Own.W.callV ok tb (a := a6) (argsL := [(.ref (kf w j))]) (rest := []) 49 50 52 51 53 29 rfl rfl rfl rfl rfl rfl (notFace_of_selects (args := #[]) (mvT ok.2.1 (tb _ (List.mem_of_getElem? (i := 52) rfl)))) (H10.exa (i := 0) rfl) at_107 pd_7 (c_is1 l tb a6 (kf w i) (kf w j) h9 (H10.fld (i := 0) (j := 0) rfl rfl) (congrArg (kf w) hc11)) 0 4 10 110 ?_
    rintro _ _ ⟨rfl, rfl⟩
    show Own.W l Z _ K _ h9 4 10 110 #[.val (.int u0), .val (.int u1), .val (.int u2), .val (.int u3), .val (.int u4), .val (.int u5), .val (.int i), .val (.int j), .val (.int k8), .val (.ref s0), .val (.ref a1), .val (.ref a6), .val (.int (1 : Int32))] [(.int (1 : Int32))]
    refine Own.W.iload ok at_110 112 rfl ?_
    refine Own.W.icmpF ok at_112 115 (by decide : (1 : Int32) = (1 : Int32)) ?_
    refine Own.W.iconst ok at_115 116 (1 : Int32) rfl ?_
    refine Own.W.goto ok at_116 120 ?_
    exact Own.W.iret ok at_120 rfl (hQ _ (Nat.le_trans hb0 (Nat.le_of_lt (H10.at (i := 1) rfl).2.lt)))

set_option maxRecDepth 65536 in
set_option maxHeartbeats 4000000 in
theorem c_law (l : Launch) {Z : State} {a0 : Array Value} (tb : Own.Tb Z a0 tables_1) (u0 : Int32) (u1 : Int32) (u2 : Int32) (u3 : Int32) (u4 : Int32) (u5 : Int32) (c0 : Int32) (w : Nat → Addr) (h : Heap) (cs : List (Addr × Own.Pc)) (H : Own.HS Z h (cs)) (SC : Sta Z Z.heap "java/lang/String" "COMPACT_STRINGS" "Z" (.int c0)) (hc0 : ¬ (c0 = (0 : Int32))) (S_NAME : Sta Z Z.heap "com/example/spikewright/spikewright/model/Token$Kind" "NAME" "Lcom/example/spikewright/spikewright/model/Token$Kind;" (.ref (w 0))) (S_NUMBER : Sta Z Z.heap "com/example/spikewright/spikewright/model/Token$Kind" "NUMBER" "Lcom/example/spikewright/spikewright/model/Token$Kind;" (.ref (w 1))) (S_STRING : Sta Z Z.heap "com/example/spikewright/spikewright/model/Token$Kind" "STRING" "Lcom/example/spikewright/spikewright/model/Token$Kind;" (.ref (w 2))) (S_PLUS : Sta Z Z.heap "com/example/spikewright/spikewright/model/Token$Kind" "PLUS" "Lcom/example/spikewright/spikewright/model/Token$Kind;" (.ref (w 3))) (S_MINUS : Sta Z Z.heap "com/example/spikewright/spikewright/model/Token$Kind" "MINUS" "Lcom/example/spikewright/spikewright/model/Token$Kind;" (.ref (w 4))) (S_STAR : Sta Z Z.heap "com/example/spikewright/spikewright/model/Token$Kind" "STAR" "Lcom/example/spikewright/spikewright/model/Token$Kind;" (.ref (w 5))) (S_SLASH : Sta Z Z.heap "com/example/spikewright/spikewright/model/Token$Kind" "SLASH" "Lcom/example/spikewright/spikewright/model/Token$Kind;" (.ref (w 6))) (S_POWER : Sta Z Z.heap "com/example/spikewright/spikewright/model/Token$Kind" "POWER" "Lcom/example/spikewright/spikewright/model/Token$Kind;" (.ref (w 7))) (S_LEFT_PAREN : Sta Z Z.heap "com/example/spikewright/spikewright/model/Token$Kind" "LEFT_PAREN" "Lcom/example/spikewright/spikewright/model/Token$Kind;" (.ref (w 8))) (S_RIGHT_PAREN : Sta Z Z.heap "com/example/spikewright/spikewright/model/Token$Kind" "RIGHT_PAREN" "Lcom/example/spikewright/spikewright/model/Token$Kind;" (.ref (w 9))) (S_LEFT_BRACE : Sta Z Z.heap "com/example/spikewright/spikewright/model/Token$Kind" "LEFT_BRACE" "Lcom/example/spikewright/spikewright/model/Token$Kind;" (.ref (w 10))) (S_RIGHT_BRACE : Sta Z Z.heap "com/example/spikewright/spikewright/model/Token$Kind" "RIGHT_BRACE" "Lcom/example/spikewright/spikewright/model/Token$Kind;" (.ref (w 11))) (S_LEFT_BRACKET : Sta Z Z.heap "com/example/spikewright/spikewright/model/Token$Kind" "LEFT_BRACKET" "Lcom/example/spikewright/spikewright/model/Token$Kind;" (.ref (w 12))) (S_RIGHT_BRACKET : Sta Z Z.heap "com/example/spikewright/spikewright/model/Token$Kind" "RIGHT_BRACKET" "Lcom/example/spikewright/spikewright/model/Token$Kind;" (.ref (w 13))) (S_COLON : Sta Z Z.heap "com/example/spikewright/spikewright/model/Token$Kind" "COLON" "Lcom/example/spikewright/spikewright/model/Token$Kind;" (.ref (w 14))) (S_SEMICOLON : Sta Z Z.heap "com/example/spikewright/spikewright/model/Token$Kind" "SEMICOLON" "Lcom/example/spikewright/spikewright/model/Token$Kind;" (.ref (w 15))) (S_COMMA : Sta Z Z.heap "com/example/spikewright/spikewright/model/Token$Kind" "COMMA" "Lcom/example/spikewright/spikewright/model/Token$Kind;" (.ref (w 16))) (S_ASSIGN : Sta Z Z.heap "com/example/spikewright/spikewright/model/Token$Kind" "ASSIGN" "Lcom/example/spikewright/spikewright/model/Token$Kind;" (.ref (w 17))) (S_PLUS_ASSIGN : Sta Z Z.heap "com/example/spikewright/spikewright/model/Token$Kind" "PLUS_ASSIGN" "Lcom/example/spikewright/spikewright/model/Token$Kind;" (.ref (w 18))) (S_MINUS_ASSIGN : Sta Z Z.heap "com/example/spikewright/spikewright/model/Token$Kind" "MINUS_ASSIGN" "Lcom/example/spikewright/spikewright/model/Token$Kind;" (.ref (w 19))) (S_LESS : Sta Z Z.heap "com/example/spikewright/spikewright/model/Token$Kind" "LESS" "Lcom/example/spikewright/spikewright/model/Token$Kind;" (.ref (w 20))) (S_GREATER : Sta Z Z.heap "com/example/spikewright/spikewright/model/Token$Kind" "GREATER" "Lcom/example/spikewright/spikewright/model/Token$Kind;" (.ref (w 21))) (S_LESS_OR_EQUAL : Sta Z Z.heap "com/example/spikewright/spikewright/model/Token$Kind" "LESS_OR_EQUAL" "Lcom/example/spikewright/spikewright/model/Token$Kind;" (.ref (w 22))) (S_GREATER_OR_EQUAL : Sta Z Z.heap "com/example/spikewright/spikewright/model/Token$Kind" "GREATER_OR_EQUAL" "Lcom/example/spikewright/spikewright/model/Token$Kind;" (.ref (w 23))) (S_EQUAL : Sta Z Z.heap "com/example/spikewright/spikewright/model/Token$Kind" "EQUAL" "Lcom/example/spikewright/spikewright/model/Token$Kind;" (.ref (w 24))) (S_NOT_EQUAL : Sta Z Z.heap "com/example/spikewright/spikewright/model/Token$Kind" "NOT_EQUAL" "Lcom/example/spikewright/spikewright/model/Token$Kind;" (.ref (w 25))) (S_NEWLINE : Sta Z Z.heap "com/example/spikewright/spikewright/model/Token$Kind" "NEWLINE" "Lcom/example/spikewright/spikewright/model/Token$Kind;" (.ref (w 26))) (S_END : Sta Z Z.heap "com/example/spikewright/spikewright/model/Token$Kind" "END" "Lcom/example/spikewright/spikewright/model/Token$Kind;" (.ref (w 27))) (S_INVALID : Sta Z Z.heap "com/example/spikewright/spikewright/model/Token$Kind" "INVALID" "Lcom/example/spikewright/spikewright/model/Token$Kind;" (.ref (w 28))) (FX : ∀ i, i < 29 → Fld Z Z.heap (w i) "java/lang/Enum" "ordinal" "I" (.int i.toInt32)) :
    Own.ConW l Z x code maxLocals ret room_1 #[(.int u0), (.int u1), (.int u2), (.int u3), (.int u4), (.int u5)] h (fun rr h' => rr = some (.int (1 : Int32)) ∧ True) := by
  refine Own.ConW.of (plainFor_of_name (by first | (simp [plainName, overriddenIn]; done) | decide +kernel)) #[.val (.int u0), .val (.int u1), .val (.int u2), .val (.int u3), .val (.int u4), .val (.int u5), .unset, .unset, .unset, .unset, .unset, .unset, .unset] (fun m => by first | rfl | (simp [entryFrame, mkF, argsToLocals, Value.category, maxLocals]; done)) (fun K ok wd => ?_)
  refine Own.W.iloadN ok at_0 1 rfl ?_
  refine Own.W.ldc ok tb 0 rfl at_1 3 ?_
  refine Own.W.iand ok at_3 4 ?_
  refine Own.W.bipush ok at_4 6 (29 : Int32) rfl ?_
  refine Own.W.irem ok at_6 7 (by decide) ?_
  refine Own.W.istore ok at_7 9 #[.val (.int u0), .val (.int u1), .val (.int u2), .val (.int u3), .val (.int u4), .val (.int u5), .val (.int ((u0 &&& (2147483647 : Int32)) % (29 : Int32))), .unset, .unset, .unset, .unset, .unset, .unset] rfl ?_
  refine Own.W.iloadN ok at_9 10 rfl ?_
  refine Own.W.iconst ok at_10 11 (1 : Int32) rfl ?_
  refine Own.W.iand ok at_11 12 ?_
  have J1 : ∀ (j : Int32) (hj : 0 ≤ j.toInt ∧ j.toInt < 29), Own.W l Z room_1 K (fun rr h' => rr = some (.int (1 : Int32)) ∧ True) h 0 0 27 #[.val (.int u0), .val (.int u1), .val (.int u2), .val (.int u3), .val (.int u4), .val (.int u5), .val (.int ((u0 &&& (2147483647 : Int32)) % (29 : Int32))), .unset, .unset, .unset, .unset, .unset, .unset] [(.int j)] := by
    intro j hj
    refine Own.W.istore ok at_27 29 #[.val (.int u0), .val (.int u1), .val (.int u2), .val (.int u3), .val (.int u4), .val (.int u5), .val (.int ((u0 &&& (2147483647 : Int32)) % (29 : Int32))), .val (.int j), .unset, .unset, .unset, .unset, .unset] rfl ?_
    refine Own.W.iloadN ok at_29 30 rfl ?_
    refine Own.W.sipush ok at_30 33 (255 : Int32) rfl ?_
    refine Own.W.iand ok at_33 34 ?_
    refine Own.W.i2cV ok at_34 35 (u3 &&& (255 : Int32)) (i2c_mask u3) ?_
    refine Own.W.istore ok at_35 37 #[.val (.int u0), .val (.int u1), .val (.int u2), .val (.int u3), .val (.int u4), .val (.int u5), .val (.int ((u0 &&& (2147483647 : Int32)) % (29 : Int32))), .val (.int j), .val (.int (u3 &&& (255 : Int32))), .unset, .unset, .unset, .unset] rfl ?_
    refine Own.W.iloadN ok at_37 38 rfl ?_
    refine Own.W.iconst ok at_38 39 (2 : Int32) rfl ?_
    refine Own.W.iand ok at_39 40 ?_
    refine Own.W.iff ok at_40 48 43 (fun (hc2 : (u2 &&& (2 : Int32)) = (0 : Int32)) => ?_) (fun (hc2 : ¬ ((u2 &&& (2 : Int32)) = (0 : Int32))) => ?_)
    · refine Own.W.iload ok at_48 50 rfl ?_
      refine Own.W.callS ok tb (argsL := [(.int (u3 &&& (255 : Int32)))]) (rest := []) 56 57 2 58 rfl rfl rfl rfl at_50 pd_8 (c_vo l tb c0 (u3 &&& (255 : Int32)) h (cs) H SC hc0 (ch_ok u3)) 0 2 5 53 ?_
      rintro _ h3 ⟨s5, b6, kb7, rfl, H4⟩
      show Own.W l Z _ K _ h3 2 5 53 #[.val (.int u0), .val (.int u1), .val (.int u2), .val (.int u3), .val (.int u4), .val (.int u5), .val (.int ((u0 &&& (2147483647 : Int32)) % (29 : Int32))), .val (.int j), .val (.int (u3 &&& (255 : Int32))), .unset, .unset, .unset, .unset] [(.ref s5)]
      exact c_rest l tb u0 u1 u2 u3 u4 u5 ((u0 &&& (2147483647 : Int32)) % (29 : Int32)) j (u3 &&& (255 : Int32)) w K ok _ h3 ((s5, o_Str (.ref b6) (.int (0 : Int32))) :: (b6, .inr (.byte, kb7, [(.int (nar .byte ((u3 &&& (255 : Int32)).toInt8.toInt32)))])) :: cs) H4 s5 S_NAME S_NUMBER S_STRING S_PLUS S_MINUS S_STAR S_SLASH S_POWER S_LEFT_PAREN S_RIGHT_PAREN S_LEFT_BRACE S_RIGHT_BRACE S_LEFT_BRACKET S_RIGHT_BRACKET S_COLON S_SEMICOLON S_COMMA S_ASSIGN S_PLUS_ASSIGN S_MINUS_ASSIGN S_LESS S_GREATER S_LESS_OR_EQUAL S_GREATER_OR_EQUAL S_EQUAL S_NOT_EQUAL S_NEWLINE S_END S_INVALID FX (md_rng u0) hj (fun hh q => ⟨rfl, trivial⟩)
    · refine Own.W.ldcS ok wd tb (wS tb) H 1 rfl at_43 0 2 4 45 (by decide) (fun a1 K h2 k1 ok wd H2 hk1 => ?_)
      refine Own.W.goto ok at_45 53 ?_
      refine Own.W.more (Nat.le_refl _) (by decide : 4 ≤ 5) ?_
      exact c_rest l tb u0 u1 u2 u3 u4 u5 ((u0 &&& (2147483647 : Int32)) % (29 : Int32)) j (u3 &&& (255 : Int32)) w K ok _ h2 (cs) H2 a1 S_NAME S_NUMBER S_STRING S_PLUS S_MINUS S_STAR S_SLASH S_POWER S_LEFT_PAREN S_RIGHT_PAREN S_LEFT_BRACE S_RIGHT_BRACE S_LEFT_BRACKET S_RIGHT_BRACKET S_COLON S_SEMICOLON S_COMMA S_ASSIGN S_PLUS_ASSIGN S_MINUS_ASSIGN S_LESS S_GREATER S_LESS_OR_EQUAL S_GREATER_OR_EQUAL S_EQUAL S_NOT_EQUAL S_NEWLINE S_END S_INVALID FX (md_rng u0) hj (fun hh q => ⟨⟨rfl, trivial⟩, Nat.le_trans hk1 q⟩)
  refine Own.W.iff ok at_12 20 15 (fun (hc8 : (u2 &&& (1 : Int32)) = (0 : Int32)) => ?_) (fun (hc8 : ¬ ((u2 &&& (1 : Int32)) = (0 : Int32))) => ?_)
  · refine Own.W.iloadN ok at_20 21 rfl ?_
    refine Own.W.ldc ok tb 0 rfl at_21 23 ?_
    refine Own.W.iand ok at_23 24 ?_
    refine Own.W.bipush ok at_24 26 (29 : Int32) rfl ?_
    refine Own.W.irem ok at_26 27 (by decide) ?_
    exact J1 ((u1 &&& (2147483647 : Int32)) % (29 : Int32)) (md_rng _)
  · refine Own.W.iload ok at_15 17 rfl ?_
    refine Own.W.goto ok at_17 27 ?_
    exact J1 ((u0 &&& (2147483647 : Int32)) % (29 : Int32)) (md_rng _)
set_option maxRecDepth 65536 in
set_option maxHeartbeats 4000000 in
theorem comes_1 {Post : Tables → Env → Array Value → State → Outcome → State → Prop} (hpost : ∀ tb e args s v u, (limb_1_1.after args s (.returned v) u = true ∧ limb_1_2.after args s (.returned v) u = true ∧ True) → ReturnedEndW s (.returned v) u (Jvm.fieldLocs frame_1_writes args s ++ Jvm.arrayLocs frame_1_arrays args s ++ Jvm.staticLocs frame_1_statics s) 24 1152 → Post tb e args s (.returned v) u) :
    ArmFor flags0 classFile x code maxLocals ret World_1 tables_1 room_1 Calls_1 rest_1 Pre_1 Post := by
  intro l hfl _ _ p e ha hc hk s m args below hf hA hF happ hP
  obtain ⟨hcalls, hrest, hpre⟩ := hP
  obtain ⟨-, -, -, hnamed, -, -, -, hat⟩ := (Spec.applies_iff hf).mp happ
  obtain ⟨hg, hn⟩ := and_e (Cond.before_iff.mp (show (Jvm.Cond.and given_1 narrow_1).before args s = true from hpre))
  obtain ⟨hg0, hr0⟩ := and_e hg
  obtain ⟨hg1, hr1⟩ := and_e hr0
  obtain ⟨hg2, hr2⟩ := and_e hr1
  obtain ⟨hg3, hr3⟩ := and_e hr2
  obtain ⟨hg4, hr4⟩ := and_e hr3
  obtain ⟨hg5, hr5⟩ := and_e hr4
  obtain ⟨w0, w1, w2, w3, w4, w5, rfl⟩ : ∃ w0 w1 w2 w3 w4 w5 : Value, args = #[w0, w1, w2, w3, w4, w5] := by
    have hs : args.size = 6 := by simpa [Cond.value, given_1] using hg0
    obtain ⟨L⟩ := args
    match L, hs with
    | [w0, w1, w2, w3, w4, w5], _ => exact ⟨w0, w1, w2, w3, w4, w5, rfl⟩
  have hw := fun d (hd : d ∈ tables_1) => atoms_spec (ws := Jvm.Cond.code x code maxLocals ret :: tables_1) hat d (List.mem_cons_of_mem _ hd)
  have hfit : Fit s := fun {y c} hc i hi => by
    obtain ⟨ha, rfl⟩ := Array.getElem?_eq_some_iff.mp hc
    have q := List.all_eq_true.mp ((Array.all_eq_true_iff_forall_mem.mp hF) _ (Array.getElem_mem ha)) i (List.mem_range.mpr hi)
    simpa [Array.getElem?_eq_getElem hi] using q
  obtain ⟨hsets, hown0⟩ := atoms_of _ (rest_1_c_eq ▸ (show rest_1_c.before _ s = true from hrest))
  obtain ⟨i0, ei0⟩ := is_v hg1
  obtain rfl : w0 = (.int i0) := Option.some.inj ei0
  obtain ⟨i1, ei1⟩ := is_v hg2
  obtain rfl : w1 = (.int i1) := Option.some.inj ei1
  obtain ⟨i2, ei2⟩ := is_v hg3
  obtain rfl : w2 = (.int i2) := Option.some.inj ei2
  obtain ⟨i3, ei3⟩ := is_v hg4
  obtain rfl : w3 = (.int i3) := Option.some.inj ei3
  obtain ⟨i4, ei4⟩ := is_v hg5
  obtain rfl : w4 = (.int i4) := Option.some.inj ei4
  obtain ⟨i5, ei5⟩ := is_v hr5
  obtain rfl : w5 = (.int i5) := Option.some.inj ei5
  obtain ⟨c0, r0⟩ := and_e hn
  obtain ⟨c1, r1⟩ := and_e r0
  obtain ⟨c2, r2⟩ := and_e r1
  obtain ⟨c3, r3⟩ := and_e r2
  obtain ⟨c4, r4⟩ := and_e r3
  obtain ⟨c5, r5⟩ := and_e r4
  obtain ⟨c6, r6⟩ := and_e r5
  obtain ⟨c7, r7⟩ := and_e r6
  obtain ⟨c8, r8⟩ := and_e r7
  obtain ⟨c9, r9⟩ := and_e r8
  obtain ⟨c10, r10⟩ := and_e r9
  obtain ⟨c11, r11⟩ := and_e r10
  obtain ⟨c12, r12⟩ := and_e r11
  obtain ⟨c13, r13⟩ := and_e r12
  obtain ⟨c14, r14⟩ := and_e r13
  obtain ⟨c15, r15⟩ := and_e r14
  obtain ⟨c16, r16⟩ := and_e r15
  obtain ⟨c17, r17⟩ := and_e r16
  obtain ⟨c18, r18⟩ := and_e r17
  obtain ⟨c19, r19⟩ := and_e r18
  obtain ⟨c20, r20⟩ := and_e r19
  obtain ⟨c21, r21⟩ := and_e r20
  obtain ⟨c22, r22⟩ := and_e r21
  obtain ⟨c23, r23⟩ := and_e r22
  obtain ⟨c24, r24⟩ := and_e r23
  obtain ⟨c25, r25⟩ := and_e r24
  obtain ⟨c26, r26⟩ := and_e r25
  obtain ⟨c27, r27⟩ := and_e r26
  obtain ⟨c28, r28⟩ := and_e r27
  obtain ⟨c29, r29⟩ := and_e r28
  obtain ⟨c30, r30⟩ := and_e r29
  obtain ⟨c31, r31⟩ := and_e r30
  obtain ⟨c32, r32⟩ := and_e r31
  obtain ⟨c33, r33⟩ := and_e r32
  obtain ⟨c34, r34⟩ := and_e r33
  obtain ⟨c35, r35⟩ := and_e r34
  obtain ⟨c36, r36⟩ := and_e r35
  obtain ⟨c37, r37⟩ := and_e r36
  obtain ⟨c38, r38⟩ := and_e r37
  obtain ⟨c39, r39⟩ := and_e r38
  obtain ⟨c40, r40⟩ := and_e r39
  obtain ⟨c41, r41⟩ := and_e r40
  obtain ⟨c42, r42⟩ := and_e r41
  obtain ⟨c43, r43⟩ := and_e r42
  obtain ⟨c44, r44⟩ := and_e r43
  obtain ⟨c45, r45⟩ := and_e r44
  obtain ⟨c46, r46⟩ := and_e r45
  obtain ⟨c47, r47⟩ := and_e r46
  obtain ⟨c48, r48⟩ := and_e r47
  obtain ⟨c49, r49⟩ := and_e r48
  obtain ⟨c50, r50⟩ := and_e r49
  obtain ⟨c51, r51⟩ := and_e r50
  obtain ⟨c52, r52⟩ := and_e r51
  obtain ⟨c53, r53⟩ := and_e r52
  obtain ⟨c54, r54⟩ := and_e r53
  obtain ⟨c55, r55⟩ := and_e r54
  obtain ⟨c56, r56⟩ := and_e r55
  obtain ⟨x0, ev0, st0, ex0⟩ := Own.st_ref c0 (Or.inr ⟨hw _ (List.mem_of_getElem? (i := 35) rfl), hw _ (List.mem_of_getElem? (i := 36) rfl)⟩)
  have od0 := Own.fl_of ev0 c2
  obtain ⟨x1, ev1, st1, ex1⟩ := Own.st_ref c18 (Or.inr ⟨hw _ (List.mem_of_getElem? (i := 35) rfl), hw _ (List.mem_of_getElem? (i := 94) rfl)⟩)
  have od1 := Own.fl_of ev1 c27
  obtain ⟨x2, ev2, st2, ex2⟩ := Own.st_ref c8 (Or.inr ⟨hw _ (List.mem_of_getElem? (i := 35) rfl), hw _ (List.mem_of_getElem? (i := 82) rfl)⟩)
  have od2 := Own.fl_of ev2 c10
  obtain ⟨x3, ev3, st3, ex3⟩ := Own.st_ref c1 (Or.inr ⟨hw _ (List.mem_of_getElem? (i := 35) rfl), hw _ (List.mem_of_getElem? (i := 48) rfl)⟩)
  have od3 := Own.fl_of ev3 c3
  obtain ⟨x4, ev4, st4, ex4⟩ := Own.st_ref c4 (Or.inr ⟨hw _ (List.mem_of_getElem? (i := 35) rfl), hw _ (List.mem_of_getElem? (i := 55) rfl)⟩)
  have od4 := Own.fl_of ev4 c24
  obtain ⟨x5, ev5, st5, ex5⟩ := Own.st_ref c6 (Or.inr ⟨hw _ (List.mem_of_getElem? (i := 35) rfl), hw _ (List.mem_of_getElem? (i := 78) rfl)⟩)
  have od5 := Own.fl_of ev5 c19
  obtain ⟨x6, ev6, st6, ex6⟩ := Own.st_ref c5 (Or.inr ⟨hw _ (List.mem_of_getElem? (i := 35) rfl), hw _ (List.mem_of_getElem? (i := 76) rfl)⟩)
  have od6 := Own.fl_of ev6 r56
  obtain ⟨x7, ev7, st7, ex7⟩ := Own.st_ref c35 (Or.inr ⟨hw _ (List.mem_of_getElem? (i := 35) rfl), hw _ (List.mem_of_getElem? (i := 108) rfl)⟩)
  have od7 := Own.fl_of ev7 c44
  obtain ⟨x8, ev8, st8, ex8⟩ := Own.st_ref c39 (Or.inr ⟨hw _ (List.mem_of_getElem? (i := 35) rfl), hw _ (List.mem_of_getElem? (i := 114) rfl)⟩)
  have od8 := Own.fl_of ev8 c40
  obtain ⟨x9, ev9, st9, ex9⟩ := Own.st_ref c46 (Or.inr ⟨hw _ (List.mem_of_getElem? (i := 35) rfl), hw _ (List.mem_of_getElem? (i := 120) rfl)⟩)
  have od9 := Own.fl_of ev9 c47
  obtain ⟨x10, ev10, st10, ex10⟩ := Own.st_ref c42 (Or.inr ⟨hw _ (List.mem_of_getElem? (i := 35) rfl), hw _ (List.mem_of_getElem? (i := 116) rfl)⟩)
  have od10 := Own.fl_of ev10 c43
  obtain ⟨x11, ev11, st11, ex11⟩ := Own.st_ref c32 (Or.inr ⟨hw _ (List.mem_of_getElem? (i := 35) rfl), hw _ (List.mem_of_getElem? (i := 106) rfl)⟩)
  have od11 := Own.fl_of ev11 c34
  obtain ⟨x12, ev12, st12, ex12⟩ := Own.st_ref c16 (Or.inr ⟨hw _ (List.mem_of_getElem? (i := 35) rfl), hw _ (List.mem_of_getElem? (i := 90) rfl)⟩)
  have od12 := Own.fl_of ev12 c28
  obtain ⟨x13, ev13, st13, ex13⟩ := Own.st_ref c11 (Or.inr ⟨hw _ (List.mem_of_getElem? (i := 35) rfl), hw _ (List.mem_of_getElem? (i := 84) rfl)⟩)
  have od13 := Own.fl_of ev13 c13
  obtain ⟨x14, ev14, st14, ex14⟩ := Own.st_ref c20 (Or.inr ⟨hw _ (List.mem_of_getElem? (i := 35) rfl), hw _ (List.mem_of_getElem? (i := 96) rfl)⟩)
  have od14 := Own.fl_of ev14 c21
  obtain ⟨x15, ev15, st15, ex15⟩ := Own.st_ref c25 (Or.inr ⟨hw _ (List.mem_of_getElem? (i := 35) rfl), hw _ (List.mem_of_getElem? (i := 100) rfl)⟩)
  have od15 := Own.fl_of ev15 c26
  obtain ⟨x16, ev16, st16, ex16⟩ := Own.st_ref c22 (Or.inr ⟨hw _ (List.mem_of_getElem? (i := 35) rfl), hw _ (List.mem_of_getElem? (i := 98) rfl)⟩)
  have od16 := Own.fl_of ev16 c23
  obtain ⟨x17, ev17, st17, ex17⟩ := Own.st_ref c12 (Or.inr ⟨hw _ (List.mem_of_getElem? (i := 35) rfl), hw _ (List.mem_of_getElem? (i := 86) rfl)⟩)
  have od17 := Own.fl_of ev17 c14
  obtain ⟨x18, ev18, st18, ex18⟩ := Own.st_ref c38 (Or.inr ⟨hw _ (List.mem_of_getElem? (i := 35) rfl), hw _ (List.mem_of_getElem? (i := 112) rfl)⟩)
  have od18 := Own.fl_of ev18 c41
  obtain ⟨x19, ev19, st19, ex19⟩ := Own.st_ref c54 (Or.inr ⟨hw _ (List.mem_of_getElem? (i := 35) rfl), hw _ (List.mem_of_getElem? (i := 126) rfl)⟩)
  have od19 := Own.fl_of ev19 c55
  obtain ⟨x20, ev20, st20, ex20⟩ := Own.st_ref c17 (Or.inr ⟨hw _ (List.mem_of_getElem? (i := 35) rfl), hw _ (List.mem_of_getElem? (i := 92) rfl)⟩)
  have od20 := Own.fl_of ev20 c56
  obtain ⟨x21, ev21, st21, ex21⟩ := Own.st_ref c31 (Or.inr ⟨hw _ (List.mem_of_getElem? (i := 35) rfl), hw _ (List.mem_of_getElem? (i := 104) rfl)⟩)
  have od21 := Own.fl_of ev21 c33
  obtain ⟨x22, ev22, st22, ex22⟩ := Own.st_ref c51 (Or.inr ⟨hw _ (List.mem_of_getElem? (i := 35) rfl), hw _ (List.mem_of_getElem? (i := 124) rfl)⟩)
  have od22 := Own.fl_of ev22 c52
  obtain ⟨x23, ev23, st23, ex23⟩ := Own.st_ref c7 (Or.inr ⟨hw _ (List.mem_of_getElem? (i := 35) rfl), hw _ (List.mem_of_getElem? (i := 80) rfl)⟩)
  have od23 := Own.fl_of ev23 c9
  obtain ⟨x24, ev24, st24, ex24⟩ := Own.st_ref c49 (Or.inr ⟨hw _ (List.mem_of_getElem? (i := 35) rfl), hw _ (List.mem_of_getElem? (i := 122) rfl)⟩)
  have od24 := Own.fl_of ev24 c50
  obtain ⟨x25, ev25, st25, ex25⟩ := Own.st_ref c15 (Or.inr ⟨hw _ (List.mem_of_getElem? (i := 35) rfl), hw _ (List.mem_of_getElem? (i := 88) rfl)⟩)
  have od25 := Own.fl_of ev25 c36
  obtain ⟨x26, ev26, st26, ex26⟩ := Own.st_ref c37 (Or.inr ⟨hw _ (List.mem_of_getElem? (i := 35) rfl), hw _ (List.mem_of_getElem? (i := 110) rfl)⟩)
  have od26 := Own.fl_of ev26 c53
  obtain ⟨x27, ev27, st27, ex27⟩ := Own.st_ref c45 (Or.inr ⟨hw _ (List.mem_of_getElem? (i := 35) rfl), hw _ (List.mem_of_getElem? (i := 118) rfl)⟩)
  have od27 := Own.fl_of ev27 c48
  obtain ⟨x28, ev28, st28, ex28⟩ := Own.st_ref c29 (Or.inr ⟨hw _ (List.mem_of_getElem? (i := 35) rfl), hw _ (List.mem_of_getElem? (i := 102) rfl)⟩)
  have od28 := Own.fl_of ev28 c30
  let w : Nat → Addr := fun i => [x0, x1, x2, x3, x4, x5, x6, x7, x8, x9, x10, x11, x12, x13, x14, x15, x16, x17, x18, x19, x20, x21, x22, x23, x24, x25, x26, x27, x28].getD i 0
  have FX : ∀ i, i < 29 → Fld s s.heap (w i) "java/lang/Enum" "ordinal" "I" (.int i.toInt32) := fun i hi => by
    rcases i with _ | _ | _ | _ | _ | _ | _ | _ | _ | _ | _ | _ | _ | _ | _ | _ | _ | _ | _ | _ | _ | _ | _ | _ | _ | _ | _ | _ | _ | i
    · exact od0
    · exact od1
    · exact od2
    · exact od3
    · exact od4
    · exact od5
    · exact od6
    · exact od7
    · exact od8
    · exact od9
    · exact od10
    · exact od11
    · exact od12
    · exact od13
    · exact od14
    · exact od15
    · exact od16
    · exact od17
    · exact od18
    · exact od19
    · exact od20
    · exact od21
    · exact od22
    · exact od23
    · exact od24
    · exact od25
    · exact od26
    · exact od27
    · exact od28
    · omega
  obtain ⟨c0, ec0⟩ := is_v (Cond.before_iff.mp (hsets _ (List.mem_of_getElem? (i := 1) rfl)))
  have SC := Sta.start ec0 (Or.inl (hsets _ (List.mem_of_getElem? (i := 0) rfl)))
  have hc0 : ¬ (c0 = (0 : Int32)) := by
    have q := not_v (Cond.before_iff.mp (hsets _ (List.mem_of_getElem? (i := 2) rfl)))
    intro e
    subst e
    rw [eq_i ec0 (Term.int_eval (0)) rfl] at q
    cases q
  obtain ⟨n, o, h1, h2, h3, _, L, rfl, ⟨⟨rfl, -⟩, N⟩, hq⟩ := c_law l hw i0 i1 i2 i3 i4 i5 c0 w s.heap [] (Own.HS.nil s) SC hc0 st0 st1 st2 st3 st4 st5 st6 st7 st8 st9 st10 st11 st12 st13 st14 st15 st16 st17 st18 st19 st20 st21 st22 st23 st24 st25 st26 st27 st28 FX tables_1 p e ha hc hk s m _ below hf ((Spec.applies_iff_loose hf).mp happ).1 ⟨rfl, State.Warmed39.refl s, rfl⟩ trivial
  refine ⟨n, _, h1, h2, h3, hpost _ _ _ _ _ _ ⟨Cond.after_iff.mpr rfl, Cond.after_iff.mpr (eq_i res_at (Term.int_eval (1)) rfl), trivial⟩ ⟨hq.1, hq.2.1, hq.2.2.1, (hq.2.2.2.sift fun y hy => Or.inr (N y hy)).mono (by decide) (by decide)⟩⟩
theorem main_1_1 : Claimed_1_1 := comes_1 fun _ _ _ _ _ _ h hF => ⟨h.1, hF⟩
theorem main_1_2 : Claimed_1_2 := comes_1 fun _ _ _ _ _ _ h hF => ⟨h.2.1, hF⟩
end Jvm.Pilot.@@N@@
namespace Jvm.Pilot.@@N@@
open Jvm Jvm.ClassFile Sem Op Lib Jvm.Free Jvm.Stand Jvm.Pilot.@@N@@.Jvm.D
/-! MADE BY PROGRAM (witnessworld.py) out of the Statement's table words and the real class files: 21 classes; the members and pool entries that the words name. The judged class is class 1, her method 2. -/
namespace start1
open Jvm.ClassFile
def u (s : String) : CpInfo := .utf8 (stringToUtf16 s)
/-- a pool by its gaps: so many unusable entries, then the entry; so many at the end -/
def gap : Nat → List CpInfo → List CpInfo
  | 0, r => r
  | n + 1, r => .unusable :: gap n r
def poolList (es : List (Nat × CpInfo)) (last : Nat) : List CpInfo := es.foldr (fun e r => gap e.1 (e.2 :: r)) (gap last [])
def pool (es : List (Nat × CpInfo)) (last : Nat) : Array CpInfo := ⟨poolList es last⟩
def fileOf (pool : Array CpInfo) (this : Nat) (attrs : Array Attribute := #[]) (ms : Array MethodInfo := #[]) (fl : Nat := 33) (sup : Nat := 0) (ifs : Array Nat := #[]) (fds : Array FieldInfo := #[]) : ClassFile where
  minorVersion := 0
  majorVersion := 65
  constantPool := pool
  accessFlags := fl
  thisClass := this
  superClass := sup
  interfaces := ifs
  fields := fds
  methods := ms
  attributes := attrs
def plain (name : String) (sup : Option ClassId) : Class where
  name := name
  kind := .ordinary
  loader := none
  accessFlags := 33
  super := sup
  interfaces := #[]
  cf := none
  fields := #[]
  methods := #[]
  instanceTypes := #[]
  staticTypes := #[]
  resolved := #[]
  callSites := []
  init := .initialized
  statics := none
  mirror := none

def pool0 : Array CpInfo := pool [(5, u "<init>"), (0, u "()V"), (1, .class_ 10), (1, u "java/lang/Object")] 113

def k0c0 : Code := { maxStack := 0, maxLocals := 1, code := object_method_1_code, exceptionTable := #[], attributes := #[] }
def k0m0 : Method := { name := "<init>", desc := "()V", sig := { parameters := [], returnType := none }, accessFlags := 1, code := some k0c0 }
/-- java/lang/Object -/
def k0 : Class := { plain "java/lang/Object" none with
  accessFlags := 33
  interfaces := #[]
  cf := some (fileOf pool0 8 #[] #[{ accessFlags := 1, nameIndex := 5, descriptorIndex := 6, attributes := #[] }] 33 0 #[] #[])
  fields := #[]
  methods := #[k0m0]
  instanceTypes := #[]
  staticTypes := #[]
  resolved := Array.replicate 124 none
  statics := none }

def pool1 : Array CpInfo := pool [(2, .class_ 4), (1, u "java/lang/Object"), (0, u "<init>"), (0, u "()V"), (0, .fieldref 8 9), (0, .class_ 10), (0, .nameAndType 11 12), (0, u "com/example/spikewright/spikewright/model/Token$Kind"), (0, u "NAME"), (0, u "Lcom/example/spikewright/spikewright/model/Token$Kind;"), (0, .fieldref 8 14), (0, .nameAndType 15 12), (0, u "NUMBER"), (0, .fieldref 8 17), (0, .nameAndType 18 12), (0, u "STRING"), (0, .fieldref 8 20), (0, .nameAndType 21 12), (0, u "PLUS"), (0, .fieldref 8 23), (0, .nameAndType 24 12), (0, u "MINUS"), (0, .fieldref 8 26), (0, .nameAndType 27 12), (0, u "STAR"), (0, .fieldref 8 29), (0, .nameAndType 30 12), (0, u "SLASH"), (0, .fieldref 8 32), (0, .nameAndType 33 12), (0, u "POWER"), (0, .fieldref 8 35), (0, .nameAndType 36 12), (0, u "LEFT_PAREN"), (0, .fieldref 8 38), (0, .nameAndType 39 12), (0, u "RIGHT_PAREN"), (0, .fieldref 8 41), (0, .nameAndType 42 12), (0, u "LEFT_BRACE"), (0, .fieldref 8 44), (0, .nameAndType 45 12), (0, u "RIGHT_BRACE"), (0, .fieldref 8 47), (0, .nameAndType 48 12), (0, u "LEFT_BRACKET"), (0, .fieldref 8 50), (0, .nameAndType 51 12), (0, u "RIGHT_BRACKET"), (0, .fieldref 8 53), (0, .nameAndType 54 12), (0, u "COLON"), (0, .fieldref 8 56), (0, .nameAndType 57 12), (0, u "SEMICOLON"), (0, .fieldref 8 59), (0, .nameAndType 60 12), (0, u "COMMA"), (0, .fieldref 8 62), (0, .nameAndType 63 12), (0, u "ASSIGN"), (0, .fieldref 8 65), (0, .nameAndType 66 12), (0, u "PLUS_ASSIGN"), (0, .fieldref 8 68), (0, .nameAndType 69 12), (0, u "MINUS_ASSIGN"), (0, .fieldref 8 71), (0, .nameAndType 72 12), (0, u "LESS"), (0, .fieldref 8 74), (0, .nameAndType 75 12), (0, u "GREATER"), (0, .fieldref 8 77), (0, .nameAndType 78 12), (0, u "LESS_OR_EQUAL"), (0, .fieldref 8 80), (0, .nameAndType 81 12), (0, u "GREATER_OR_EQUAL"), (0, .fieldref 8 83), (0, .nameAndType 84 12), (0, u "EQUAL"), (0, .fieldref 8 86), (0, .nameAndType 87 12), (0, u "NOT_EQUAL"), (0, .fieldref 8 89), (0, .nameAndType 90 12), (0, u "NEWLINE"), (0, .fieldref 8 92), (0, .nameAndType 93 12), (0, u "END"), (0, .fieldref 8 95), (0, .nameAndType 96 12), (0, u "INVALID"), (0, .integer 2147483647), (0, .string 99), (0, u ""), (0, .methodref 101 102), (0, .class_ 103), (0, .nameAndType 104 105), (0, u "java/lang/String"), (0, u "valueOf"), (0, u "(C)Ljava/lang/String;"), (0, .class_ 107), (0, u "com/example/spikewright/spikewright/model/Position"), (0, .methodref 106 109), (0, .nameAndType 5 110), (0, u "(II)V"), (0, .class_ 112), (0, u "com/example/spikewright/spikewright/model/Token"), (0, .methodref 114 115), (0, .class_ 116), (0, .nameAndType 117 118), (0, u "com/example/spikewright/spikewright/model/TokenIsPinLaw"), (0, u "kindOf"), (0, u "(I)Lcom/example/spikewright/spikewright/model/Token$Kind;"), (0, .methodref 111 120), (0, .nameAndType 5 121), (0, u "(Lcom/example/spikewright/spikewright/model/Token$Kind;Ljava/lang/String;Lcom/example/spikewright/spikewright/model/Position;)V"), (0, .methodref 111 123), (0, .nameAndType 124 125), (0, u "is"), (0, u "(Lcom/example/spikewright/spikewright/model/Token$Kind;)Z"), (3, u "law"), (0, u "(IIIIII)Z")] 4

def k1m0 : Method := { name := "<init>", desc := "()V", sig := { parameters := [], returnType := none }, accessFlags := 1, code := none }
def k1c1 : Code := { maxStack := 2, maxLocals := 1, code := method_2_code, exceptionTable := #[], attributes := #[] }
def k1m1 : Method := { name := "kindOf", desc := "(I)Lcom/example/spikewright/spikewright/model/Token$Kind;", sig := { parameters := [.int], returnType := some (.object "com/example/spikewright/spikewright/model/Token$Kind") }, accessFlags := 10, code := some k1c1 }
def k1c2 : Code := { maxStack := 5, maxLocals := 13, code := code, exceptionTable := #[], attributes := #[] }
def k1m2 : Method := { name := "law", desc := "(IIIIII)Z", sig := { parameters := [.int, .int, .int, .int, .int, .int], returnType := some .boolean }, accessFlags := 9, code := some k1c2 }
/-- com/example/spikewright/spikewright/model/TokenIsPinLaw -/
def k1 : Class := { plain "com/example/spikewright/spikewright/model/TokenIsPinLaw" (some 0) with
  accessFlags := 49
  interfaces := #[]
  cf := some (fileOf pool1 114 #[] #[{ accessFlags := 1, nameIndex := 5, descriptorIndex := 6, attributes := #[] }, { accessFlags := 10, nameIndex := 117, descriptorIndex := 118, attributes := #[] }, { accessFlags := 9, nameIndex := 129, descriptorIndex := 130, attributes := #[] }] 49 2 #[] #[])
  fields := #[]
  methods := #[k1m0, k1m1, k1m2]
  instanceTypes := #[]
  staticTypes := #[]
  resolved := Array.replicate 135 none
  statics := none }

def pool2 : Array CpInfo := pool [(1, .class_ 2), (0, u "java/io/Serializable"), (0, .class_ 4), (0, u "java/lang/Object")] 2

/-- java/io/Serializable -/
def k2 : Class := { plain "java/io/Serializable" (some 0) with
  accessFlags := 1537
  interfaces := #[]
  cf := some (fileOf pool2 1 #[] #[] 1537 3 #[] #[])
  fields := #[]
  methods := #[]
  instanceTypes := #[]
  staticTypes := #[]
  resolved := Array.replicate 7 none
  statics := none }

def pool3 : Array CpInfo := pool [(1, .class_ 2), (0, u "java/lang/Comparable"), (0, .class_ 4), (0, u "java/lang/Object")] 7

/-- java/lang/Comparable -/
def k3 : Class := { plain "java/lang/Comparable" (some 0) with
  accessFlags := 1537
  interfaces := #[]
  cf := some (fileOf pool3 1 #[] #[] 1537 3 #[] #[])
  fields := #[]
  methods := #[]
  instanceTypes := #[]
  staticTypes := #[]
  resolved := Array.replicate 12 none
  statics := none }

def pool4 : Array CpInfo := pool [(2, .class_ 4), (1, u "java/lang/CharSequence"), (42, .class_ 48), (0, u "java/lang/CharSequence$1CodePointIterator"), (10, .class_ 60), (0, u "java/lang/CharSequence$1CharIterator"), (5, .class_ 67), (0, u "java/lang/Object")] 63

/-- java/lang/CharSequence -/
def k4 : Class := { plain "java/lang/CharSequence" (some 0) with
  accessFlags := 1537
  interfaces := #[]
  cf := some (fileOf pool4 2 #[.nestMembers #[47, 59]] #[] 1537 66 #[] #[])
  fields := #[]
  methods := #[]
  instanceTypes := #[]
  staticTypes := #[]
  resolved := Array.replicate 131 none
  statics := none }

def pool5 : Array CpInfo := pool [(1, .class_ 2), (0, u "java/lang/constant/Constable"), (0, .class_ 4), (0, u "java/lang/Object")] 6

/-- java/lang/constant/Constable -/
def k5 : Class := { plain "java/lang/constant/Constable" (some 0) with
  accessFlags := 1537
  interfaces := #[]
  cf := some (fileOf pool5 1 #[] #[] 1537 3 #[] #[])
  fields := #[]
  methods := #[]
  instanceTypes := #[]
  staticTypes := #[]
  resolved := Array.replicate 11 none
  statics := none }

def pool6 : Array CpInfo := pool [(1, .class_ 2), (0, u "java/lang/constant/ConstantDesc"), (0, .class_ 4), (0, u "java/lang/Object")] 32

/-- java/lang/constant/ConstantDesc -/
def k6 : Class := { plain "java/lang/constant/ConstantDesc" (some 0) with
  accessFlags := 1537
  interfaces := #[]
  cf := some (fileOf pool6 1 #[] #[] 1537 3 #[] #[])
  fields := #[]
  methods := #[]
  instanceTypes := #[]
  staticTypes := #[]
  resolved := Array.replicate 37 none
  statics := none }

def pool7 : Array CpInfo := pool [(1, .methodref 2 3), (0, .class_ 4), (0, .nameAndType 5 6), (0, u "java/lang/Object"), (0, u "<init>"), (0, u "()V"), (2, .fieldref 10 11), (0, .class_ 12), (0, .nameAndType 13 14), (0, u "java/lang/String"), (0, u "value"), (0, u "[B"), (0, .fieldref 10 16), (0, .nameAndType 17 18), (0, u "coder"), (0, u "B"), (2, u "hash"), (0, u "I"), (2, u "hashIsZero"), (0, u "Z"), (11, .fieldref 10 39), (0, .nameAndType 40 26), (0, u "COMPACT_STRINGS"), (12, u "toBytes"), (53, .class_ 109), (1, u "java/lang/StringLatin1"), (99, .methodref 10 210), (0, .nameAndType 5 211), (0, u "([BB)V"), (157, u "(C)Z"), (205, .class_ 576), (0, u "java/lang/CharSequence"), (22, u "CASE_INSENSITIVE_ORDER"), (0, u "Ljava/util/Comparator;"), (181, u "valueOf"), (0, u "(C)Ljava/lang/String;"), (231, .methodref 107 1016), (0, .nameAndType 1017 369), (0, u "canEncode"), (0, .methodref 107 1019), (0, .nameAndType 53 1020), (0, u "(C)[B"), (80, u "serialPersistentFields"), (0, u "[Ljava/io/ObjectStreamField;"), (0, .class_ 1104), (0, u "java/lang/String$CaseInsensitiveComparator"), (1, .class_ 1107), (0, u "java/io/Serializable"), (0, .class_ 1109), (0, u "java/lang/Comparable"), (0, .class_ 1111), (0, u "java/lang/constant/Constable"), (0, .class_ 1113), (0, u "java/lang/constant/ConstantDesc"), (2, u "serialVersionUID"), (0, u "J"), (3, u "REPL"), (0, u "C"), (2, u "LATIN1"), (1, u "UTF16")] 323

def k7m0 : Method := { name := "<init>", desc := "()V", sig := { parameters := [], returnType := none }, accessFlags := 1, code := none }
def k7c1 : Code := { maxStack := 4, maxLocals := 1, code := jdk_42_method_139_code, exceptionTable := #[], attributes := #[] }
def k7m1 : Method := { name := "valueOf", desc := "(C)Ljava/lang/String;", sig := { parameters := [.char], returnType := some (.object "java/lang/String") }, accessFlags := 9, code := some k7c1 }
def k7c2 : Code := { maxStack := 2, maxLocals := 3, code := jdk_42_method_151_code, exceptionTable := #[], attributes := #[] }
def k7m2 : Method := { name := "<init>", desc := "([BB)V", sig := { parameters := [(.array .byte), .byte], returnType := none }, accessFlags := 0, code := some k7c2 }
/-- java/lang/String -/
def k7 : Class := { plain "java/lang/String" (some 0) with
  accessFlags := 49
  interfaces := #[2, 3, 4, 5, 6]
  cf := some (fileOf pool7 10 #[.nestMembers #[1103]] #[{ accessFlags := 1, nameIndex := 5, descriptorIndex := 6, attributes := #[] }, { accessFlags := 9, nameIndex := 782, descriptorIndex := 783, attributes := #[] }, { accessFlags := 0, nameIndex := 5, descriptorIndex := 211, attributes := #[] }] 49 2 #[1106, 1108, 575, 1110, 1112] #[{ accessFlags := 18, nameIndex := 13, descriptorIndex := 14, attributes := #[] }, { accessFlags := 18, nameIndex := 17, descriptorIndex := 18, attributes := #[] }, { accessFlags := 2, nameIndex := 21, descriptorIndex := 22, attributes := #[] }, { accessFlags := 2, nameIndex := 25, descriptorIndex := 26, attributes := #[] }, { accessFlags := 26, nameIndex := 1116, descriptorIndex := 1117, attributes := #[] }, { accessFlags := 24, nameIndex := 40, descriptorIndex := 26, attributes := #[] }, { accessFlags := 26, nameIndex := 1101, descriptorIndex := 1102, attributes := #[] }, { accessFlags := 26, nameIndex := 1121, descriptorIndex := 1122, attributes := #[] }, { accessFlags := 25, nameIndex := 599, descriptorIndex := 600, attributes := #[] }, { accessFlags := 24, nameIndex := 1125, descriptorIndex := 18, attributes := #[] }, { accessFlags := 24, nameIndex := 1127, descriptorIndex := 18, attributes := #[] }])
  fields := #[{ name := "value", type := (.array .byte), accessFlags := 18, slot := 0, constantValue := 0 }, { name := "coder", type := .byte, accessFlags := 18, slot := 1, constantValue := 0 }, { name := "hash", type := .int, accessFlags := 2, slot := 2, constantValue := 0 }, { name := "hashIsZero", type := .boolean, accessFlags := 2, slot := 3, constantValue := 0 }, { name := "serialVersionUID", type := .long, accessFlags := 26, slot := 0, constantValue := 0 }, { name := "COMPACT_STRINGS", type := .boolean, accessFlags := 24, slot := 1, constantValue := 0 }, { name := "serialPersistentFields", type := (.array (.object "java/io/ObjectStreamField")), accessFlags := 26, slot := 2, constantValue := 0 }, { name := "REPL", type := .char, accessFlags := 26, slot := 3, constantValue := 0 }, { name := "CASE_INSENSITIVE_ORDER", type := (.object "java/util/Comparator"), accessFlags := 25, slot := 4, constantValue := 0 }, { name := "LATIN1", type := .byte, accessFlags := 24, slot := 5, constantValue := 0 }, { name := "UTF16", type := .byte, accessFlags := 24, slot := 6, constantValue := 0 }]
  methods := #[k7m0, k7m1, k7m2]
  instanceTypes := #[(.array .byte), .byte, .int, .boolean]
  staticTypes := #[.long, .boolean, (.array (.object "java/io/ObjectStreamField")), .char, (.object "java/util/Comparator"), .byte, .byte]
  resolved := Array.replicate 1451 none
  statics := some 0 }

def pool8 : Array CpInfo := pool [(1, .methodref 2 3), (0, .class_ 4), (0, .nameAndType 5 6), (0, u "java/lang/Object"), (0, u "<init>"), (0, u "()V"), (0, .class_ 8), (0, u "java/lang/Record")] 13

def k8c0 : Code := { maxStack := 1, maxLocals := 1, code := jdk_30_method_1_code, exceptionTable := #[], attributes := #[] }
def k8m0 : Method := { name := "<init>", desc := "()V", sig := { parameters := [], returnType := none }, accessFlags := 4, code := some k8c0 }
/-- java/lang/Record -/
def k8 : Class := { plain "java/lang/Record" (some 0) with
  accessFlags := 1057
  interfaces := #[]
  cf := some (fileOf pool8 7 #[] #[{ accessFlags := 4, nameIndex := 5, descriptorIndex := 6, attributes := #[] }] 1057 2 #[] #[])
  fields := #[]
  methods := #[k8m0]
  instanceTypes := #[]
  staticTypes := #[]
  resolved := Array.replicate 22 none
  statics := none }

def pool9 : Array CpInfo := pool [(1, .methodref 2 3), (0, .class_ 4), (0, .nameAndType 5 6), (0, u "java/lang/Record"), (0, u "<init>"), (0, u "()V"), (0, .fieldref 8 9), (0, .class_ 10), (0, .nameAndType 11 12), (0, u "com/example/spikewright/spikewright/model/Position"), (0, u "line"), (0, u "I"), (0, .fieldref 8 14), (0, .nameAndType 15 12), (0, u "column"), (23, u "(II)V"), (2, u "START"), (0, u "Lcom/example/spikewright/spikewright/model/Position;"), (0, .class_ 45), (0, u "java/lang/Comparable")] 41

def k9c0 : Code := { maxStack := 2, maxLocals := 3, code := prog_33_method_1_code, exceptionTable := #[], attributes := #[] }
def k9m0 : Method := { name := "<init>", desc := "(II)V", sig := { parameters := [.int, .int], returnType := none }, accessFlags := 1, code := some k9c0 }
/-- com/example/spikewright/spikewright/model/Position -/
def k9 : Class := { plain "com/example/spikewright/spikewright/model/Position" (some 8) with
  accessFlags := 49
  interfaces := #[3]
  cf := some (fileOf pool9 8 #[] #[{ accessFlags := 1, nameIndex := 5, descriptorIndex := 39, attributes := #[] }] 49 2 #[44] #[{ accessFlags := 18, nameIndex := 11, descriptorIndex := 12, attributes := #[] }, { accessFlags := 18, nameIndex := 15, descriptorIndex := 12, attributes := #[] }, { accessFlags := 25, nameIndex := 42, descriptorIndex := 43, attributes := #[] }])
  fields := #[{ name := "line", type := .int, accessFlags := 18, slot := 0, constantValue := 0 }, { name := "column", type := .int, accessFlags := 18, slot := 1, constantValue := 0 }, { name := "START", type := (.object "com/example/spikewright/spikewright/model/Position"), accessFlags := 25, slot := 0, constantValue := 0 }]
  methods := #[k9m0]
  instanceTypes := #[.int, .int]
  staticTypes := #[(.object "com/example/spikewright/spikewright/model/Position")]
  resolved := Array.replicate 87 none
  statics := none }

def pool10 : Array CpInfo := pool [(1, .methodref 2 3), (0, .class_ 4), (0, .nameAndType 5 6), (0, u "java/lang/Record"), (0, u "<init>"), (0, u "()V"), (0, .fieldref 8 9), (0, .class_ 10), (0, .nameAndType 11 12), (0, u "com/example/spikewright/spikewright/model/Token"), (0, u "kind"), (0, u "Lcom/example/spikewright/spikewright/model/Token$Kind;"), (0, .fieldref 8 14), (0, .nameAndType 15 16), (0, u "text"), (0, u "Ljava/lang/String;"), (0, .fieldref 8 18), (0, .nameAndType 19 20), (0, u "position"), (0, u "Lcom/example/spikewright/spikewright/model/Position;"), (1, .class_ 24), (1, u "com/example/spikewright/spikewright/model/Token$Kind"), (97, u "(Lcom/example/spikewright/spikewright/model/Token$Kind;Ljava/lang/String;Lcom/example/spikewright/spikewright/model/Position;)V"), (3, u "is"), (0, u "(Lcom/example/spikewright/spikewright/model/Token$Kind;)Z")] 52

def k10c0 : Code := { maxStack := 2, maxLocals := 4, code := prog_46_method_1_code, exceptionTable := #[], attributes := #[] }
def k10m0 : Method := { name := "<init>", desc := "(Lcom/example/spikewright/spikewright/model/Token$Kind;Ljava/lang/String;Lcom/example/spikewright/spikewright/model/Position;)V", sig := { parameters := [(.object "com/example/spikewright/spikewright/model/Token$Kind"), (.object "java/lang/String"), (.object "com/example/spikewright/spikewright/model/Position")], returnType := none }, accessFlags := 0, code := some k10c0 }
def k10c1 : Code := { maxStack := 2, maxLocals := 2, code := prog_46_method_2_code, exceptionTable := #[], attributes := #[] }
def k10m1 : Method := { name := "is", desc := "(Lcom/example/spikewright/spikewright/model/Token$Kind;)Z", sig := { parameters := [(.object "com/example/spikewright/spikewright/model/Token$Kind")], returnType := some .boolean }, accessFlags := 0, code := some k10c1 }
/-- com/example/spikewright/spikewright/model/Token -/
def k10 : Class := { plain "com/example/spikewright/spikewright/model/Token" (some 8) with
  accessFlags := 48
  interfaces := #[]
  cf := some (fileOf pool10 8 #[.nestMembers #[22]] #[{ accessFlags := 0, nameIndex := 5, descriptorIndex := 122, attributes := #[] }, { accessFlags := 0, nameIndex := 126, descriptorIndex := 127, attributes := #[] }] 48 2 #[] #[{ accessFlags := 18, nameIndex := 11, descriptorIndex := 12, attributes := #[] }, { accessFlags := 18, nameIndex := 15, descriptorIndex := 16, attributes := #[] }, { accessFlags := 18, nameIndex := 19, descriptorIndex := 20, attributes := #[] }])
  fields := #[{ name := "kind", type := (.object "com/example/spikewright/spikewright/model/Token$Kind"), accessFlags := 18, slot := 0, constantValue := 0 }, { name := "text", type := (.object "java/lang/String"), accessFlags := 18, slot := 1, constantValue := 0 }, { name := "position", type := (.object "com/example/spikewright/spikewright/model/Position"), accessFlags := 18, slot := 2, constantValue := 0 }]
  methods := #[k10m0, k10m1]
  instanceTypes := #[(.object "com/example/spikewright/spikewright/model/Token$Kind"), (.object "java/lang/String"), (.object "com/example/spikewright/spikewright/model/Position")]
  staticTypes := #[]
  resolved := Array.replicate 180 none
  statics := none }

def pool11 : Array CpInfo := pool [(2, .class_ 4), (1, u "java/lang/Enum"), (0, u "name"), (0, u "Ljava/lang/String;"), (2, u "ordinal"), (0, u "I"), (1, .class_ 14), (1, u "java/lang/Object"), (4, u "hash"), (86, .class_ 108), (1, u "java/lang/Enum$EnumDesc"), (2, .class_ 112), (0, u "java/lang/constant/Constable"), (0, .class_ 114), (0, u "java/lang/Comparable"), (0, .class_ 116), (0, u "java/io/Serializable")] 87

/-- java/lang/Enum -/
def k11 : Class := { plain "java/lang/Enum" (some 0) with
  accessFlags := 1057
  interfaces := #[5, 3, 2]
  cf := some (fileOf pool11 2 #[.nestMembers #[106]] #[] 1057 12 #[111, 113, 115] #[{ accessFlags := 18, nameIndex := 5, descriptorIndex := 6, attributes := #[] }, { accessFlags := 18, nameIndex := 9, descriptorIndex := 10, attributes := #[] }, { accessFlags := 2, nameIndex := 19, descriptorIndex := 10, attributes := #[] }])
  fields := #[{ name := "name", type := (.object "java/lang/String"), accessFlags := 18, slot := 0, constantValue := 0 }, { name := "ordinal", type := .int, accessFlags := 18, slot := 1, constantValue := 0 }, { name := "hash", type := .int, accessFlags := 2, slot := 2, constantValue := 0 }]
  methods := #[]
  instanceTypes := #[(.object "java/lang/String"), .int, .int]
  staticTypes := #[]
  resolved := Array.replicate 204 none
  statics := none }

def pool12 : Array CpInfo := pool [(1, .class_ 2), (0, u "com/example/spikewright/spikewright/model/Token$Kind"), (2, u "NAME"), (0, u "Lcom/example/spikewright/spikewright/model/Token$Kind;"), (2, u "NUMBER"), (2, u "STRING"), (2, u "PLUS"), (2, u "MINUS"), (2, u "STAR"), (2, u "SLASH"), (2, u "POWER"), (2, u "LEFT_PAREN"), (2, u "RIGHT_PAREN"), (2, u "LEFT_BRACE"), (2, u "RIGHT_BRACE"), (2, u "LEFT_BRACKET"), (2, u "RIGHT_BRACKET"), (2, u "COLON"), (2, u "SEMICOLON"), (2, u "COMMA"), (2, u "ASSIGN"), (2, u "PLUS_ASSIGN"), (2, u "MINUS_ASSIGN"), (2, u "LESS"), (2, u "GREATER"), (2, u "LESS_OR_EQUAL"), (2, u "GREATER_OR_EQUAL"), (2, u "EQUAL"), (2, u "NOT_EQUAL"), (2, u "NEWLINE"), (2, u "END"), (2, u "INVALID"), (2, u "$VALUES"), (0, u "[Lcom/example/spikewright/spikewright/model/Token$Kind;"), (6, .class_ 103), (1, u "java/lang/Enum"), (52, .class_ 157), (0, u "com/example/spikewright/spikewright/model/Token")] 2

/-- com/example/spikewright/spikewright/model/Token$Kind -/
def k12 : Class := { plain "com/example/spikewright/spikewright/model/Token$Kind" (some 11) with
  accessFlags := 16432
  interfaces := #[]
  cf := some (fileOf pool12 1 #[.nestHost 156] #[] 16432 101 #[] #[{ accessFlags := 16409, nameIndex := 5, descriptorIndex := 6, attributes := #[] }, { accessFlags := 16409, nameIndex := 9, descriptorIndex := 6, attributes := #[] }, { accessFlags := 16409, nameIndex := 12, descriptorIndex := 6, attributes := #[] }, { accessFlags := 16409, nameIndex := 15, descriptorIndex := 6, attributes := #[] }, { accessFlags := 16409, nameIndex := 18, descriptorIndex := 6, attributes := #[] }, { accessFlags := 16409, nameIndex := 21, descriptorIndex := 6, attributes := #[] }, { accessFlags := 16409, nameIndex := 24, descriptorIndex := 6, attributes := #[] }, { accessFlags := 16409, nameIndex := 27, descriptorIndex := 6, attributes := #[] }, { accessFlags := 16409, nameIndex := 30, descriptorIndex := 6, attributes := #[] }, { accessFlags := 16409, nameIndex := 33, descriptorIndex := 6, attributes := #[] }, { accessFlags := 16409, nameIndex := 36, descriptorIndex := 6, attributes := #[] }, { accessFlags := 16409, nameIndex := 39, descriptorIndex := 6, attributes := #[] }, { accessFlags := 16409, nameIndex := 42, descriptorIndex := 6, attributes := #[] }, { accessFlags := 16409, nameIndex := 45, descriptorIndex := 6, attributes := #[] }, { accessFlags := 16409, nameIndex := 48, descriptorIndex := 6, attributes := #[] }, { accessFlags := 16409, nameIndex := 51, descriptorIndex := 6, attributes := #[] }, { accessFlags := 16409, nameIndex := 54, descriptorIndex := 6, attributes := #[] }, { accessFlags := 16409, nameIndex := 57, descriptorIndex := 6, attributes := #[] }, { accessFlags := 16409, nameIndex := 60, descriptorIndex := 6, attributes := #[] }, { accessFlags := 16409, nameIndex := 63, descriptorIndex := 6, attributes := #[] }, { accessFlags := 16409, nameIndex := 66, descriptorIndex := 6, attributes := #[] }, { accessFlags := 16409, nameIndex := 69, descriptorIndex := 6, attributes := #[] }, { accessFlags := 16409, nameIndex := 72, descriptorIndex := 6, attributes := #[] }, { accessFlags := 16409, nameIndex := 75, descriptorIndex := 6, attributes := #[] }, { accessFlags := 16409, nameIndex := 78, descriptorIndex := 6, attributes := #[] }, { accessFlags := 16409, nameIndex := 81, descriptorIndex := 6, attributes := #[] }, { accessFlags := 16409, nameIndex := 84, descriptorIndex := 6, attributes := #[] }, { accessFlags := 16409, nameIndex := 87, descriptorIndex := 6, attributes := #[] }, { accessFlags := 16409, nameIndex := 90, descriptorIndex := 6, attributes := #[] }, { accessFlags := 4122, nameIndex := 93, descriptorIndex := 94, attributes := #[] }])
  fields := #[{ name := "NAME", type := (.object "com/example/spikewright/spikewright/model/Token$Kind"), accessFlags := 16409, slot := 0, constantValue := 0 }, { name := "NUMBER", type := (.object "com/example/spikewright/spikewright/model/Token$Kind"), accessFlags := 16409, slot := 1, constantValue := 0 }, { name := "STRING", type := (.object "com/example/spikewright/spikewright/model/Token$Kind"), accessFlags := 16409, slot := 2, constantValue := 0 }, { name := "PLUS", type := (.object "com/example/spikewright/spikewright/model/Token$Kind"), accessFlags := 16409, slot := 3, constantValue := 0 }, { name := "MINUS", type := (.object "com/example/spikewright/spikewright/model/Token$Kind"), accessFlags := 16409, slot := 4, constantValue := 0 }, { name := "STAR", type := (.object "com/example/spikewright/spikewright/model/Token$Kind"), accessFlags := 16409, slot := 5, constantValue := 0 }, { name := "SLASH", type := (.object "com/example/spikewright/spikewright/model/Token$Kind"), accessFlags := 16409, slot := 6, constantValue := 0 }, { name := "POWER", type := (.object "com/example/spikewright/spikewright/model/Token$Kind"), accessFlags := 16409, slot := 7, constantValue := 0 }, { name := "LEFT_PAREN", type := (.object "com/example/spikewright/spikewright/model/Token$Kind"), accessFlags := 16409, slot := 8, constantValue := 0 }, { name := "RIGHT_PAREN", type := (.object "com/example/spikewright/spikewright/model/Token$Kind"), accessFlags := 16409, slot := 9, constantValue := 0 }, { name := "LEFT_BRACE", type := (.object "com/example/spikewright/spikewright/model/Token$Kind"), accessFlags := 16409, slot := 10, constantValue := 0 }, { name := "RIGHT_BRACE", type := (.object "com/example/spikewright/spikewright/model/Token$Kind"), accessFlags := 16409, slot := 11, constantValue := 0 }, { name := "LEFT_BRACKET", type := (.object "com/example/spikewright/spikewright/model/Token$Kind"), accessFlags := 16409, slot := 12, constantValue := 0 }, { name := "RIGHT_BRACKET", type := (.object "com/example/spikewright/spikewright/model/Token$Kind"), accessFlags := 16409, slot := 13, constantValue := 0 }, { name := "COLON", type := (.object "com/example/spikewright/spikewright/model/Token$Kind"), accessFlags := 16409, slot := 14, constantValue := 0 }, { name := "SEMICOLON", type := (.object "com/example/spikewright/spikewright/model/Token$Kind"), accessFlags := 16409, slot := 15, constantValue := 0 }, { name := "COMMA", type := (.object "com/example/spikewright/spikewright/model/Token$Kind"), accessFlags := 16409, slot := 16, constantValue := 0 }, { name := "ASSIGN", type := (.object "com/example/spikewright/spikewright/model/Token$Kind"), accessFlags := 16409, slot := 17, constantValue := 0 }, { name := "PLUS_ASSIGN", type := (.object "com/example/spikewright/spikewright/model/Token$Kind"), accessFlags := 16409, slot := 18, constantValue := 0 }, { name := "MINUS_ASSIGN", type := (.object "com/example/spikewright/spikewright/model/Token$Kind"), accessFlags := 16409, slot := 19, constantValue := 0 }, { name := "LESS", type := (.object "com/example/spikewright/spikewright/model/Token$Kind"), accessFlags := 16409, slot := 20, constantValue := 0 }, { name := "GREATER", type := (.object "com/example/spikewright/spikewright/model/Token$Kind"), accessFlags := 16409, slot := 21, constantValue := 0 }, { name := "LESS_OR_EQUAL", type := (.object "com/example/spikewright/spikewright/model/Token$Kind"), accessFlags := 16409, slot := 22, constantValue := 0 }, { name := "GREATER_OR_EQUAL", type := (.object "com/example/spikewright/spikewright/model/Token$Kind"), accessFlags := 16409, slot := 23, constantValue := 0 }, { name := "EQUAL", type := (.object "com/example/spikewright/spikewright/model/Token$Kind"), accessFlags := 16409, slot := 24, constantValue := 0 }, { name := "NOT_EQUAL", type := (.object "com/example/spikewright/spikewright/model/Token$Kind"), accessFlags := 16409, slot := 25, constantValue := 0 }, { name := "NEWLINE", type := (.object "com/example/spikewright/spikewright/model/Token$Kind"), accessFlags := 16409, slot := 26, constantValue := 0 }, { name := "END", type := (.object "com/example/spikewright/spikewright/model/Token$Kind"), accessFlags := 16409, slot := 27, constantValue := 0 }, { name := "INVALID", type := (.object "com/example/spikewright/spikewright/model/Token$Kind"), accessFlags := 16409, slot := 28, constantValue := 0 }, { name := "$VALUES", type := (.array (.object "com/example/spikewright/spikewright/model/Token$Kind")), accessFlags := 4122, slot := 29, constantValue := 0 }]
  methods := #[]
  instanceTypes := #[(.object "java/lang/String"), .int, .int]
  staticTypes := #[(.object "com/example/spikewright/spikewright/model/Token$Kind"), (.object "com/example/spikewright/spikewright/model/Token$Kind"), (.object "com/example/spikewright/spikewright/model/Token$Kind"), (.object "com/example/spikewright/spikewright/model/Token$Kind"), (.object "com/example/spikewright/spikewright/model/Token$Kind"), (.object "com/example/spikewright/spikewright/model/Token$Kind"), (.object "com/example/spikewright/spikewright/model/Token$Kind"), (.object "com/example/spikewright/spikewright/model/Token$Kind"), (.object "com/example/spikewright/spikewright/model/Token$Kind"), (.object "com/example/spikewright/spikewright/model/Token$Kind"), (.object "com/example/spikewright/spikewright/model/Token$Kind"), (.object "com/example/spikewright/spikewright/model/Token$Kind"), (.object "com/example/spikewright/spikewright/model/Token$Kind"), (.object "com/example/spikewright/spikewright/model/Token$Kind"), (.object "com/example/spikewright/spikewright/model/Token$Kind"), (.object "com/example/spikewright/spikewright/model/Token$Kind"), (.object "com/example/spikewright/spikewright/model/Token$Kind"), (.object "com/example/spikewright/spikewright/model/Token$Kind"), (.object "com/example/spikewright/spikewright/model/Token$Kind"), (.object "com/example/spikewright/spikewright/model/Token$Kind"), (.object "com/example/spikewright/spikewright/model/Token$Kind"), (.object "com/example/spikewright/spikewright/model/Token$Kind"), (.object "com/example/spikewright/spikewright/model/Token$Kind"), (.object "com/example/spikewright/spikewright/model/Token$Kind"), (.object "com/example/spikewright/spikewright/model/Token$Kind"), (.object "com/example/spikewright/spikewright/model/Token$Kind"), (.object "com/example/spikewright/spikewright/model/Token$Kind"), (.object "com/example/spikewright/spikewright/model/Token$Kind"), (.object "com/example/spikewright/spikewright/model/Token$Kind"), (.array (.object "com/example/spikewright/spikewright/model/Token$Kind"))]
  resolved := Array.replicate 160 none
  statics := some 1 }

def pool13 : Array CpInfo := pool [(4, .class_ 6), (1, u "java/lang/Object"), (0, u "<init>"), (0, u "()V"), (5, .class_ 16), (1, u "java/lang/StringLatin1"), (73, u "canEncode"), (14, u "(C)Z"), (15, u "$assertionsDisabled"), (0, u "Z"), (98, .class_ 223), (1, u "java/lang/StringLatin1$LinesSpliterator"), (156, u "toBytes"), (1, u "(C)[B"), (7, .class_ 391), (0, u "java/lang/StringLatin1$CharsSpliterator")] 3

def k13m0 : Method := { name := "<init>", desc := "()V", sig := { parameters := [], returnType := none }, accessFlags := 0, code := none }
def k13c1 : Code := { maxStack := 2, maxLocals := 1, code := jdk_43_method_3_code, exceptionTable := #[], attributes := #[] }
def k13m1 : Method := { name := "canEncode", desc := "(C)Z", sig := { parameters := [.char], returnType := some .boolean }, accessFlags := 9, code := some k13c1 }
def k13c2 : Code := { maxStack := 4, maxLocals := 1, code := jdk_43_method_46_code, exceptionTable := #[], attributes := #[] }
def k13m2 : Method := { name := "toBytes", desc := "(C)[B", sig := { parameters := [.char], returnType := some (.array .byte) }, accessFlags := 9, code := some k13c2 }
/-- java/lang/StringLatin1 -/
def k13 : Class := { plain "java/lang/StringLatin1" (some 0) with
  accessFlags := 48
  interfaces := #[]
  cf := some (fileOf pool13 14 #[.nestMembers #[390, 221]] #[{ accessFlags := 0, nameIndex := 7, descriptorIndex := 8, attributes := #[] }, { accessFlags := 9, nameIndex := 90, descriptorIndex := 105, attributes := #[] }, { accessFlags := 9, nameIndex := 380, descriptorIndex := 382, attributes := #[] }] 48 4 #[] #[{ accessFlags := 4120, nameIndex := 121, descriptorIndex := 122, attributes := #[] }])
  fields := #[{ name := "$assertionsDisabled", type := .boolean, accessFlags := 4120, slot := 0, constantValue := 0 }]
  methods := #[k13m0, k13m1, k13m2]
  instanceTypes := #[]
  staticTypes := #[.boolean]
  resolved := Array.replicate 395 none
  statics := none }

def pool14 : Array CpInfo := pool [(2, .class_ 4), (1, u "java/lang/Object"), (0, u "<init>"), (0, u "()V"), (17, .class_ 26), (1, u "jdk/internal/util/Preconditions"), (28, .class_ 56), (0, u "jdk/internal/util/Preconditions$4"), (57, .class_ 115), (0, u "jdk/internal/util/Preconditions$1"), (7, u "SIOOBE_FORMATTER"), (0, u "Ljava/util/function/BiFunction;"), (0, .class_ 126), (0, u "jdk/internal/util/Preconditions$2"), (3, u "AIOOBE_FORMATTER"), (0, .class_ 132), (0, u "jdk/internal/util/Preconditions$3"), (3, u "IOOBE_FORMATTER")] 57

def k14m0 : Method := { name := "<init>", desc := "()V", sig := { parameters := [], returnType := none }, accessFlags := 1, code := none }
/-- jdk/internal/util/Preconditions -/
def k14 : Class := { plain "jdk/internal/util/Preconditions" (some 0) with
  accessFlags := 33
  interfaces := #[]
  cf := some (fileOf pool14 24 #[.nestMembers #[55, 131, 125, 114]] #[{ accessFlags := 1, nameIndex := 5, descriptorIndex := 6, attributes := #[] }] 33 2 #[] #[{ accessFlags := 25, nameIndex := 123, descriptorIndex := 124, attributes := #[] }, { accessFlags := 25, nameIndex := 130, descriptorIndex := 124, attributes := #[] }, { accessFlags := 25, nameIndex := 136, descriptorIndex := 124, attributes := #[] }])
  fields := #[{ name := "SIOOBE_FORMATTER", type := (.object "java/util/function/BiFunction"), accessFlags := 25, slot := 0, constantValue := 0 }, { name := "AIOOBE_FORMATTER", type := (.object "java/util/function/BiFunction"), accessFlags := 25, slot := 1, constantValue := 0 }, { name := "IOOBE_FORMATTER", type := (.object "java/util/function/BiFunction"), accessFlags := 25, slot := 2, constantValue := 0 }]
  methods := #[k14m0]
  instanceTypes := #[]
  staticTypes := #[(.object "java/util/function/BiFunction"), (.object "java/util/function/BiFunction"), (.object "java/util/function/BiFunction")]
  resolved := Array.replicate 194 none
  statics := some 2 }

def pool15 : Array CpInfo := pool [(9, u "<init>"), (6, .class_ 18), (1, u "java/lang/Object"), (0, u "()V"), (1, .class_ 23), (1, u "jdk/internal/util/ArraysSupport"), (0, u "LOG2_ARRAY_LONG_INDEX_SCALE"), (0, u "I"), (2, u "U"), (0, u "Ljdk/internal/misc/Unsafe;"), (8, u "BIG_ENDIAN"), (0, u "Z"), (8, u "LOG2_BYTE_BIT_SIZE"), (4, u "LOG2_ARRAY_INT_INDEX_SCALE"), (54, u "JLA"), (0, u "Ljdk/internal/access/JavaLangAccess;"), (11, u "LOG2_ARRAY_BOOLEAN_INDEX_SCALE"), (9, u "LOG2_ARRAY_BYTE_INDEX_SCALE"), (5, u "LOG2_ARRAY_CHAR_INDEX_SCALE"), (5, u "LOG2_ARRAY_SHORT_INDEX_SCALE"), (18, u "LOG2_ARRAY_FLOAT_INDEX_SCALE"), (24, u "LOG2_ARRAY_DOUBLE_INDEX_SCALE"), (89, u "T_BOOLEAN"), (2, u "T_CHAR"), (1, u "T_FLOAT"), (1, u "T_DOUBLE"), (1, u "T_BYTE"), (1, u "T_SHORT"), (1, u "T_INT"), (1, u "T_LONG"), (1, u "SOFT_MAX_ARRAY_LENGTH")] 83

def k15m0 : Method := { name := "<init>", desc := "()V", sig := { parameters := [], returnType := none }, accessFlags := 2, code := none }
/-- jdk/internal/util/ArraysSupport -/
def k15 : Class := { plain "jdk/internal/util/ArraysSupport" (some 0) with
  accessFlags := 33
  interfaces := #[]
  cf := some (fileOf pool15 21 #[] #[{ accessFlags := 2, nameIndex := 9, descriptorIndex := 19, attributes := #[] }] 33 16 #[] #[{ accessFlags := 24, nameIndex := 28, descriptorIndex := 29, attributes := #[] }, { accessFlags := 26, nameIndex := 38, descriptorIndex := 39, attributes := #[] }, { accessFlags := 25, nameIndex := 121, descriptorIndex := 25, attributes := #[] }, { accessFlags := 25, nameIndex := 131, descriptorIndex := 25, attributes := #[] }, { accessFlags := 25, nameIndex := 137, descriptorIndex := 25, attributes := #[] }, { accessFlags := 25, nameIndex := 143, descriptorIndex := 25, attributes := #[] }, { accessFlags := 25, nameIndex := 53, descriptorIndex := 25, attributes := #[] }, { accessFlags := 25, nameIndex := 24, descriptorIndex := 25, attributes := #[] }, { accessFlags := 25, nameIndex := 162, descriptorIndex := 25, attributes := #[] }, { accessFlags := 25, nameIndex := 187, descriptorIndex := 25, attributes := #[] }, { accessFlags := 26, nameIndex := 48, descriptorIndex := 25, attributes := #[] }, { accessFlags := 25, nameIndex := 277, descriptorIndex := 25, attributes := #[] }, { accessFlags := 25, nameIndex := 280, descriptorIndex := 25, attributes := #[] }, { accessFlags := 25, nameIndex := 282, descriptorIndex := 25, attributes := #[] }, { accessFlags := 25, nameIndex := 284, descriptorIndex := 25, attributes := #[] }, { accessFlags := 25, nameIndex := 286, descriptorIndex := 25, attributes := #[] }, { accessFlags := 25, nameIndex := 288, descriptorIndex := 25, attributes := #[] }, { accessFlags := 25, nameIndex := 290, descriptorIndex := 25, attributes := #[] }, { accessFlags := 25, nameIndex := 292, descriptorIndex := 25, attributes := #[] }, { accessFlags := 26, nameIndex := 108, descriptorIndex := 109, attributes := #[] }, { accessFlags := 25, nameIndex := 294, descriptorIndex := 25, attributes := #[] }])
  fields := #[{ name := "U", type := (.object "jdk/internal/misc/Unsafe"), accessFlags := 24, slot := 0, constantValue := 0 }, { name := "BIG_ENDIAN", type := .boolean, accessFlags := 26, slot := 1, constantValue := 0 }, { name := "LOG2_ARRAY_BOOLEAN_INDEX_SCALE", type := .int, accessFlags := 25, slot := 2, constantValue := 0 }, { name := "LOG2_ARRAY_BYTE_INDEX_SCALE", type := .int, accessFlags := 25, slot := 3, constantValue := 0 }, { name := "LOG2_ARRAY_CHAR_INDEX_SCALE", type := .int, accessFlags := 25, slot := 4, constantValue := 0 }, { name := "LOG2_ARRAY_SHORT_INDEX_SCALE", type := .int, accessFlags := 25, slot := 5, constantValue := 0 }, { name := "LOG2_ARRAY_INT_INDEX_SCALE", type := .int, accessFlags := 25, slot := 6, constantValue := 0 }, { name := "LOG2_ARRAY_LONG_INDEX_SCALE", type := .int, accessFlags := 25, slot := 7, constantValue := 0 }, { name := "LOG2_ARRAY_FLOAT_INDEX_SCALE", type := .int, accessFlags := 25, slot := 8, constantValue := 0 }, { name := "LOG2_ARRAY_DOUBLE_INDEX_SCALE", type := .int, accessFlags := 25, slot := 9, constantValue := 0 }, { name := "LOG2_BYTE_BIT_SIZE", type := .int, accessFlags := 26, slot := 10, constantValue := 0 }, { name := "T_BOOLEAN", type := .int, accessFlags := 25, slot := 11, constantValue := 0 }, { name := "T_CHAR", type := .int, accessFlags := 25, slot := 12, constantValue := 0 }, { name := "T_FLOAT", type := .int, accessFlags := 25, slot := 13, constantValue := 0 }, { name := "T_DOUBLE", type := .int, accessFlags := 25, slot := 14, constantValue := 0 }, { name := "T_BYTE", type := .int, accessFlags := 25, slot := 15, constantValue := 0 }, { name := "T_SHORT", type := .int, accessFlags := 25, slot := 16, constantValue := 0 }, { name := "T_INT", type := .int, accessFlags := 25, slot := 17, constantValue := 0 }, { name := "T_LONG", type := .int, accessFlags := 25, slot := 18, constantValue := 0 }, { name := "JLA", type := (.object "jdk/internal/access/JavaLangAccess"), accessFlags := 26, slot := 19, constantValue := 0 }, { name := "SOFT_MAX_ARRAY_LENGTH", type := .int, accessFlags := 25, slot := 20, constantValue := 0 }]
  methods := #[k15m0]
  instanceTypes := #[]
  staticTypes := #[(.object "jdk/internal/misc/Unsafe"), .boolean, .int, .int, .int, .int, .int, .int, .int, .int, .int, .int, .int, .int, .int, .int, .int, .int, .int, (.object "jdk/internal/access/JavaLangAccess"), .int]
  resolved := Array.replicate 378 none
  statics := none }

def pool16 : Array CpInfo := pool [(1, u "java/lang/Cloneable"), (0, .class_ 1), (0, u "java/lang/Object"), (0, .class_ 3)] 3

/-- java/lang/Cloneable -/
def k16 : Class := { plain "java/lang/Cloneable" (some 0) with
  accessFlags := 1537
  interfaces := #[]
  cf := some (fileOf pool16 2 #[] #[] 1537 4 #[] #[])
  fields := #[]
  methods := #[]
  instanceTypes := #[]
  staticTypes := #[]
  resolved := Array.replicate 8 none
  statics := none }

/-- the primitive byte -/
def k17 : Class := { plain "byte" none with kind := .primitive 'B', accessFlags := 0x411 }
/-- [B -/
def k18 : Class := { plain "[B" (some 0) with kind := .array 17 .byte, interfaces := #[16, 2], accessFlags := 1041 }

/-- the primitive int -/
def k19 : Class := { plain "int" none with kind := .primitive 'I', accessFlags := 0x411 }
/-- [I -/
def k20 : Class := { plain "[I" (some 0) with kind := .array 19 .int, interfaces := #[16, 2], accessFlags := 1041 }

def heap : Heap := #[{ cls := 7, slots := #[.long 0, .int 1, .null, .int 0, .null, .int 0, .int 0], vm := .statics 7 },
  { cls := 12, slots := #[.ref 3, .ref 4, .ref 5, .ref 6, .ref 7, .ref 8, .ref 9, .ref 10, .ref 11, .ref 12, .ref 13, .ref 14, .ref 15, .ref 16, .ref 17, .ref 18, .ref 19, .ref 20, .ref 21, .ref 22, .ref 23, .ref 24, .ref 25, .ref 26, .ref 27, .ref 28, .ref 29, .ref 30, .ref 31, .null], vm := .statics 12 },
  { cls := 14, slots := #[.null, .null, .null], vm := .statics 14 },
  { cls := 12, slots := #[.null, .int 0, .int 0], vm := .none },
  { cls := 12, slots := #[.null, .int 1, .int 0], vm := .none },
  { cls := 12, slots := #[.null, .int 2, .int 0], vm := .none },
  { cls := 12, slots := #[.null, .int 3, .int 0], vm := .none },
  { cls := 12, slots := #[.null, .int 4, .int 0], vm := .none },
  { cls := 12, slots := #[.null, .int 5, .int 0], vm := .none },
  { cls := 12, slots := #[.null, .int 6, .int 0], vm := .none },
  { cls := 12, slots := #[.null, .int 7, .int 0], vm := .none },
  { cls := 12, slots := #[.null, .int 8, .int 0], vm := .none },
  { cls := 12, slots := #[.null, .int 9, .int 0], vm := .none },
  { cls := 12, slots := #[.null, .int 10, .int 0], vm := .none },
  { cls := 12, slots := #[.null, .int 11, .int 0], vm := .none },
  { cls := 12, slots := #[.null, .int 12, .int 0], vm := .none },
  { cls := 12, slots := #[.null, .int 13, .int 0], vm := .none },
  { cls := 12, slots := #[.null, .int 14, .int 0], vm := .none },
  { cls := 12, slots := #[.null, .int 15, .int 0], vm := .none },
  { cls := 12, slots := #[.null, .int 16, .int 0], vm := .none },
  { cls := 12, slots := #[.null, .int 17, .int 0], vm := .none },
  { cls := 12, slots := #[.null, .int 18, .int 0], vm := .none },
  { cls := 12, slots := #[.null, .int 19, .int 0], vm := .none },
  { cls := 12, slots := #[.null, .int 20, .int 0], vm := .none },
  { cls := 12, slots := #[.null, .int 21, .int 0], vm := .none },
  { cls := 12, slots := #[.null, .int 22, .int 0], vm := .none },
  { cls := 12, slots := #[.null, .int 23, .int 0], vm := .none },
  { cls := 12, slots := #[.null, .int 24, .int 0], vm := .none },
  { cls := 12, slots := #[.null, .int 25, .int 0], vm := .none },
  { cls := 12, slots := #[.null, .int 26, .int 0], vm := .none },
  { cls := 12, slots := #[.null, .int 27, .int 0], vm := .none },
  { cls := 12, slots := #[.null, .int 28, .int 0], vm := .none }]
def classes : Array Class := #[k0, k1, k2, k3, k4, k5, k6, k7, k8, k9, k10, k11, k12, k13, k14, k15, k16, k17, k18, k19, k20]
def interned : List (Array UInt16 × Addr) := []
def slotsUsed : Nat := 127
def theMethod : MethodId := ⟨1, 2⟩
def args0 : Array Value := #[.int 5, .int 6, .int 7, .int 8, .int 9, .int 10]
def aboutOver (below : List Frame) : State where
  vm := { classes := classes, interned := interned.toArray }
  heap := heap
  slotsUsed := slotsUsed
  threads := #[{ frames := .invoking theMethod args0 :: below }]
def below0 : List Frame := [.native { method := ⟨0, 0⟩, args := #[] }]
def about1 : State := aboutOver below0
def p0 : Program := .bare "" "" ""
def e0 : Env := launch0.env 0 0 0
theorem w_frames : about1.frames = Frame.invoking theMethod args0 :: below0 := rfl
set_option maxRecDepth 65536 in
theorem w_args : argsFit about1.vm theMethod args0 = true := by decide +kernel
set_option maxRecDepth 65536 in
theorem w_heap : heapFits about1 = true := by decide +kernel
set_option maxRecDepth 65536 in
theorem w_runnable : about1.curStatus? = some .runnable := by decide +kernel
set_option maxRecDepth 65536 in
theorem w_alone : about1.alone = true := by decide +kernel
set_option maxRecDepth 65536 in
theorem w_named : about1.methodNamed? x = some theMethod := by decide +kernel
set_option maxRecDepth 65536 in
theorem w_hears : about1.hears theMethod below0 = true := by decide +kernel
set_option maxRecDepth 65536 in
theorem w_ripe : about1.ripe theMethod args0 below0 = true := by decide +kernel
theorem w_running : about1.status = .running := rfl
set_option maxRecDepth 65536 in
theorem w_room : about1.hasRoom e0.platform room_1 = true :=
  launch0.hasRoom_least _ room_1 (by decide +kernel) (by decide +kernel) (by decide +kernel) (by decide +kernel) (by decide +kernel) (by decide +kernel)
theorem allAtoms_all (ts : List Jvm.Cond) (a : Array Jvm.Value) (st : Jvm.State) : (allAtoms ts).before a st = ts.all (fun c => c.before a st) := by
  induction ts with
  | nil => rfl
  | cons c t ih =>
    show (Jvm.Cond.and c (allAtoms t)).before a st = _
    rw [Jvm.Cond.before_and, ih, List.all_cons]
def words1 : List Jvm.Cond := Jvm.Cond.code x code maxLocals ret :: tables_1
/-- a 'code' word, met by the world's own term for the bytes: nothing is compared byte by byte -/
theorem code_word {y : MethodName} {bytes : ByteArray} {mx : Nat} {rt : Option FieldType} {a : Array Value} {s : State} {m : MethodId} {meth : Method} {c : Code} (h1 : s.methodNamed? y = some m) (h2 : s.vm.method? m = some meth) (h3 : meth.code = some c) (h4 : c.code = bytes)
    (h5 : (c.maxLocals == mx && c.exceptionTable.isEmpty && decide (c.maxStack ≤ mostOperands) && decide (meth.sig.returnType = rt) && !meth.locks && decide (parseMethodDescriptor y.desc = some meth.sig)) = true) : (Jvm.Cond.code y bytes mx rt).before a s = true := by
  simp only [Bool.and_eq_true, beq_iff_eq, Bool.not_eq_true', decide_eq_true_eq] at h5
  obtain ⟨⟨⟨⟨⟨g1, g2⟩, g3⟩, g4⟩, g5⟩, g6⟩ := h5
  simp [Cond.before, Cond.holds, Cond.value, h1, h2, h3, h4, g1, g2, g3, g4, g5, g6]
def isCode : Jvm.Cond → Bool
  | .code _ _ _ _ => true
  | _ => false
theorem all_split {L : List Jvm.Cond} {P : Jvm.Cond → Bool} (h1 : L.all (fun c => isCode c || P c) = true) (h2 : ∀ c ∈ L.filter isCode, P c = true) : L.all P = true := by
  refine List.all_eq_true.mpr fun c hc => ?_
  have h := List.all_eq_true.mp h1 c hc
  rcases Bool.eq_false_or_eq_true (isCode c) with hi | hi
  · exact h2 c (List.mem_filter.mpr ⟨hc, hi⟩)
  · simpa [hi] using h
set_option maxRecDepth 65536 in
theorem w_c0 : (Jvm.Cond.code x code maxLocals ret).before args0 about1 = true := code_word (m := ⟨1, 2⟩) (meth := k1m2) (c := k1c2) (by decide +kernel) rfl rfl rfl (by decide +kernel)
set_option maxRecDepth 65536 in
theorem w_c1 : (Jvm.Cond.code ({ cls := "com/example/spikewright/spikewright/model/Position", name := "<init>", desc := "(II)V" } : Jvm.MethodName) prog_33_method_1_code (3 : Nat) (Option.none : Option Jvm.ClassFile.FieldType)).before args0 about1 = true := code_word (m := ⟨9, 0⟩) (meth := k9m0) (c := k9c0) (by decide +kernel) rfl rfl rfl (by decide +kernel)
set_option maxRecDepth 65536 in
theorem w_c2 : (Jvm.Cond.code ({ cls := "java/lang/Record", name := "<init>", desc := "()V" } : Jvm.MethodName) jdk_30_method_1_code (1 : Nat) (Option.none : Option Jvm.ClassFile.FieldType)).before args0 about1 = true := code_word (m := ⟨8, 0⟩) (meth := k8m0) (c := k8c0) (by decide +kernel) rfl rfl rfl (by decide +kernel)
set_option maxRecDepth 65536 in
theorem w_c3 : (Jvm.Cond.code ({ cls := "java/lang/Object", name := "<init>", desc := "()V" } : Jvm.MethodName) object_method_1_code (1 : Nat) (Option.none : Option Jvm.ClassFile.FieldType)).before args0 about1 = true := code_word (m := ⟨0, 0⟩) (meth := k0m0) (c := k0c0) (by decide +kernel) rfl rfl rfl (by decide +kernel)
set_option maxRecDepth 65536 in
theorem w_c4 : (Jvm.Cond.code ({ cls := "com/example/spikewright/spikewright/model/TokenIsPinLaw", name := "kindOf", desc := "(I)Lcom/example/spikewright/spikewright/model/Token$Kind;" } : Jvm.MethodName) method_2_code (1 : Nat) (Option.some (Jvm.ClassFile.FieldType.object "com/example/spikewright/spikewright/model/Token$Kind"))).before args0 about1 = true := code_word (m := ⟨1, 1⟩) (meth := k1m1) (c := k1c1) (by decide +kernel) rfl rfl rfl (by decide +kernel)
set_option maxRecDepth 65536 in
theorem w_c5 : (Jvm.Cond.code ({ cls := "com/example/spikewright/spikewright/model/Token", name := "<init>", desc := "(Lcom/example/spikewright/spikewright/model/Token$Kind;Ljava/lang/String;Lcom/example/spikewright/spikewright/model/Position;)V" } : Jvm.MethodName) prog_46_method_1_code (4 : Nat) (Option.none : Option Jvm.ClassFile.FieldType)).before args0 about1 = true := code_word (m := ⟨10, 0⟩) (meth := k10m0) (c := k10c0) (by decide +kernel) rfl rfl rfl (by decide +kernel)
set_option maxRecDepth 65536 in
theorem w_c6 : (Jvm.Cond.code ({ cls := "com/example/spikewright/spikewright/model/Token", name := "is", desc := "(Lcom/example/spikewright/spikewright/model/Token$Kind;)Z" } : Jvm.MethodName) prog_46_method_2_code (2 : Nat) (Option.some Jvm.ClassFile.FieldType.boolean)).before args0 about1 = true := code_word (m := ⟨10, 1⟩) (meth := k10m1) (c := k10c1) (by decide +kernel) rfl rfl rfl (by decide +kernel)
set_option maxRecDepth 65536 in
theorem w_c7 : (Jvm.Cond.code ({ cls := "java/lang/String", name := "valueOf", desc := "(C)Ljava/lang/String;" } : Jvm.MethodName) jdk_42_method_139_code (1 : Nat) (Option.some (Jvm.ClassFile.FieldType.object "java/lang/String"))).before args0 about1 = true := code_word (m := ⟨7, 1⟩) (meth := k7m1) (c := k7c1) (by decide +kernel) rfl rfl rfl (by decide +kernel)
set_option maxRecDepth 65536 in
theorem w_c8 : (Jvm.Cond.code ({ cls := "java/lang/StringLatin1", name := "canEncode", desc := "(C)Z" } : Jvm.MethodName) jdk_43_method_3_code (1 : Nat) (Option.some Jvm.ClassFile.FieldType.boolean)).before args0 about1 = true := code_word (m := ⟨13, 1⟩) (meth := k13m1) (c := k13c1) (by decide +kernel) rfl rfl rfl (by decide +kernel)
set_option maxRecDepth 65536 in
theorem w_c9 : (Jvm.Cond.code ({ cls := "java/lang/StringLatin1", name := "toBytes", desc := "(C)[B" } : Jvm.MethodName) jdk_43_method_46_code (1 : Nat) (Option.some (Jvm.ClassFile.FieldType.array Jvm.ClassFile.FieldType.byte))).before args0 about1 = true := code_word (m := ⟨13, 2⟩) (meth := k13m2) (c := k13c2) (by decide +kernel) rfl rfl rfl (by decide +kernel)
set_option maxRecDepth 65536 in
theorem w_c10 : (Jvm.Cond.code ({ cls := "java/lang/String", name := "<init>", desc := "([BB)V" } : Jvm.MethodName) jdk_42_method_151_code (3 : Nat) (Option.none : Option Jvm.ClassFile.FieldType)).before args0 about1 = true := code_word (m := ⟨7, 2⟩) (meth := k7m2) (c := k7c2) (by decide +kernel) rfl rfl rfl (by decide +kernel)
def codes1 : List Jvm.Cond := [Jvm.Cond.code x code maxLocals ret, Jvm.Cond.code ({ cls := "com/example/spikewright/spikewright/model/Position", name := "<init>", desc := "(II)V" } : Jvm.MethodName) prog_33_method_1_code (3 : Nat) (Option.none : Option Jvm.ClassFile.FieldType), Jvm.Cond.code ({ cls := "java/lang/Record", name := "<init>", desc := "()V" } : Jvm.MethodName) jdk_30_method_1_code (1 : Nat) (Option.none : Option Jvm.ClassFile.FieldType), Jvm.Cond.code ({ cls := "java/lang/Object", name := "<init>", desc := "()V" } : Jvm.MethodName) object_method_1_code (1 : Nat) (Option.none : Option Jvm.ClassFile.FieldType), Jvm.Cond.code ({ cls := "com/example/spikewright/spikewright/model/TokenIsPinLaw", name := "kindOf", desc := "(I)Lcom/example/spikewright/spikewright/model/Token$Kind;" } : Jvm.MethodName) method_2_code (1 : Nat) (Option.some (Jvm.ClassFile.FieldType.object "com/example/spikewright/spikewright/model/Token$Kind")), Jvm.Cond.code ({ cls := "com/example/spikewright/spikewright/model/Token", name := "<init>", desc := "(Lcom/example/spikewright/spikewright/model/Token$Kind;Ljava/lang/String;Lcom/example/spikewright/spikewright/model/Position;)V" } : Jvm.MethodName) prog_46_method_1_code (4 : Nat) (Option.none : Option Jvm.ClassFile.FieldType), Jvm.Cond.code ({ cls := "com/example/spikewright/spikewright/model/Token", name := "is", desc := "(Lcom/example/spikewright/spikewright/model/Token$Kind;)Z" } : Jvm.MethodName) prog_46_method_2_code (2 : Nat) (Option.some Jvm.ClassFile.FieldType.boolean), Jvm.Cond.code ({ cls := "java/lang/String", name := "valueOf", desc := "(C)Ljava/lang/String;" } : Jvm.MethodName) jdk_42_method_139_code (1 : Nat) (Option.some (Jvm.ClassFile.FieldType.object "java/lang/String")), Jvm.Cond.code ({ cls := "java/lang/StringLatin1", name := "canEncode", desc := "(C)Z" } : Jvm.MethodName) jdk_43_method_3_code (1 : Nat) (Option.some Jvm.ClassFile.FieldType.boolean), Jvm.Cond.code ({ cls := "java/lang/StringLatin1", name := "toBytes", desc := "(C)[B" } : Jvm.MethodName) jdk_43_method_46_code (1 : Nat) (Option.some (Jvm.ClassFile.FieldType.array Jvm.ClassFile.FieldType.byte)), Jvm.Cond.code ({ cls := "java/lang/String", name := "<init>", desc := "([BB)V" } : Jvm.MethodName) jdk_42_method_151_code (3 : Nat) (Option.none : Option Jvm.ClassFile.FieldType)]
set_option maxRecDepth 65536 in
theorem codes_eq : words1.filter isCode = codes1 := rfl
theorem w_codes : ∀ c ∈ words1.filter isCode, c.before args0 about1 = true := by
  rw [codes_eq]
  intro c hc
  simp only [codes1, List.mem_cons, List.not_mem_nil, or_false] at hc
  rcases hc with rfl | rfl | rfl | rfl | rfl | rfl | rfl | rfl | rfl | rfl | rfl
  · exact w_c0
  · exact w_c1
  · exact w_c2
  · exact w_c3
  · exact w_c4
  · exact w_c5
  · exact w_c6
  · exact w_c7
  · exact w_c8
  · exact w_c9
  · exact w_c10
set_option maxRecDepth 65536 in
theorem w_t1 : (words1.take 24).all (fun c => isCode c || c.before args0 about1) = true := by decide +kernel
set_option maxRecDepth 65536 in
theorem w_t2 : ((words1.drop 24).take 24).all (fun c => isCode c || c.before args0 about1) = true := by decide +kernel
set_option maxRecDepth 65536 in
theorem w_t3 : (((words1.drop 24).drop 24).take 24).all (fun c => isCode c || c.before args0 about1) = true := by decide +kernel
set_option maxRecDepth 65536 in
theorem w_t4 : ((((words1.drop 24).drop 24).drop 24).take 24).all (fun c => isCode c || c.before args0 about1) = true := by decide +kernel
set_option maxRecDepth 65536 in
theorem w_t5 : (((((words1.drop 24).drop 24).drop 24).drop 24).take 24).all (fun c => isCode c || c.before args0 about1) = true := by decide +kernel
set_option maxRecDepth 65536 in
theorem w_t6 : (((((words1.drop 24).drop 24).drop 24).drop 24).drop 24).all (fun c => isCode c || c.before args0 about1) = true := by decide +kernel
theorem w_tables : (allAtoms (Jvm.Cond.code x code maxLocals ret :: tables_1)).before args0 about1 = true := by
  rw [allAtoms_all]
  show words1.all (fun c => c.before args0 about1) = true
  refine all_split ?_ w_codes
  rw [← List.take_append_drop 24 words1, List.all_append, w_t1, ← List.take_append_drop 24 (words1.drop 24), List.all_append, w_t2, ← List.take_append_drop 24 ((words1.drop 24).drop 24), List.all_append, w_t3, ← List.take_append_drop 24 (((words1.drop 24).drop 24).drop 24), List.all_append, w_t4, ← List.take_append_drop 24 ((((words1.drop 24).drop 24).drop 24).drop 24), List.all_append, w_t5, w_t6]
  rfl
set_option maxRecDepth 65536 in
theorem w_rest : rest_1_c.before args0 about1 = true := by decide +kernel
set_option maxRecDepth 65536 in
theorem w_case : (Jvm.Cond.and given_1 narrow_1).before args0 about1 = true := by decide +kernel
theorem w_applies : (headSpec (Jvm.Cond.code x code maxLocals ret :: tables_1) room_1).applies x e0.platform about1 = true :=
  (Spec.applies_iff w_frames).mpr ⟨w_running, w_runnable, w_alone, w_named, w_hears, w_ripe, w_room, w_tables⟩
theorem atStart : AtStart classFile x code maxLocals ret World_1 tables_1 room_1 Calls_1 rest_1 Pre_1 launch0 p0 e0 about1 theMethod args0 below0 :=
  ⟨lists_1, trivial, launch0.admits_env _ _ _, launch0.least_env, fairChoices_fair.cas, fairChoices_fair.clock, w_frames, w_args, w_heap, w_applies, trivial, w_rest, w_case⟩
end start1
theorem witness_1 : WitnessClaimed_1 := ⟨start1.p0, start1.e0, start1.about1, start1.theMethod, start1.args0, start1.below0, start1.atStart⟩
end Jvm.Pilot.@@N@@
