import JvmDerived
import JvmDerived.Pilot.@@N@@Statement
import JvmDerived.Pilot.@@N@@Code
set_option linter.unusedVariables false
set_option linter.unusedSimpArgs false
namespace Jvm.OwnWalk
open Sem ClassFile Op Lib Jvm.Stand Jvm.Free Jvm.LawKit Jvm.RoadKit
/-- from t the run comes to an end of which P holds -/
def Win (tb : Tables) (e : Env) (below : List Frame) (P : State → Outcome → Prop) (t : State) : Prop :=
  ∃ s₂ o, Steps tb e below t s₂ ∧ s₂.status = .running ∧ Ended s₂ below o ∧ P s₂ o
theorem Win.go {tb : Tables} {e : Env} {below : List Frame} {P : State → Outcome → Prop} {t t' : State} (st : ∀ z, Steps tb e below t' z → Steps tb e below t z) (w : Win tb e below P t') : Win tb e below P t := by
  obtain ⟨s2, o, h, r⟩ := w; exact ⟨s2, o, st _ h, r⟩
theorem Win.come {tb : Tables} {e : Env} {below : List Frame} {P : State → Outcome → Prop} {t t' : State} (st : Steps tb e below t t') (w : Win tb e below P t') : Win tb e below P t := by
  obtain ⟨s2, o, h, r⟩ := w; exact ⟨s2, o, st.trans h, r⟩
/-- the body has returned v with the heap h, L written -/
def PostQ (s : State) (Q : Option Value → Heap → List Loc → Prop) (C S : Nat) (u : State) (o : Outcome) : Prop := ∃ v L, o = .returned v ∧ Q v u.heap L ∧ FrameEnd s o u L C S
section Ret
variable {p : Program} {l : Launch} {e : Env} {R : Room} {s : State} {m : MethodId} {args : Array Value} {below : List Frame} {meth : Method} {c : Code} {T : State} {locs : List Loc} {cells slots : Nat} {h : Heap} {Q : Option Value → Heap → List Loc → Prop} {C S : Nat}
theorem retI' (X : Stand p l e R s m args below meth c T locs cells slots) (hx : p.tables.exec = Jvm.exec) {pc : Nat} {Ls : Array Slot} {z : Int32} {rest : List Value} (hret : meth.sig.returnType = some .int) (hd : decode c.code pc = .ok (.ireturn, 1)) {fs : List Frame}
    (hl : ∀ (f : JFrame) (acts : List Action), f.method = m → f.locked = none → f.entered = [] → (doReturn e (T.setTop f) acts (some (.int z))).1 = T.setFrames fs) : Steps p.tables e below (T.setTop (mkF m pc Ls (.int z :: rest))) (T.setFrames fs) := by
  have hm' : T.vm.method? m = some meth := X.method'
  have hn : narrow .int (.int z) = .int z := rfl
  show Steps p.tables e below (T.setTop { method := m, pc := pc, locals := Ls, stack := _ :: rest, locked := none }) _
  jvm_step X.here [X.here.top, hx, hd, hm', hret, hn]
  first | (intro acts; rw [hl _ acts rfl rfl rfl]) | rw [hl _ _ rfl rfl rfl]
  exact Steps.refl _
theorem retA' (X : Stand p l e R s m args below meth c T locs cells slots) (hx : p.tables.exec = Jvm.exec) {pc : Nat} {Ls : Array Slot} {w : Value} {t : FieldType} (hret : meth.sig.returnType = some t) (ht : t.isReference = true) (hv : w.isRef = true) (hd : decode c.code pc = .ok (.areturn, 1)) {fs : List Frame}
    (hl : ∀ (f : JFrame) (acts : List Action), f.method = m → f.locked = none → f.entered = [] → (doReturn e (T.setTop f) acts (some w)).1 = T.setFrames fs) : Steps p.tables e below (T.setTop (mkF m pc Ls [w])) (T.setFrames fs) := by
  have hm' : T.vm.method? m = some meth := X.method'
  show Steps p.tables e below (T.setTop { method := m, pc := pc, locals := Ls, stack := [w], locked := none }) _
  jvm_step X.here [X.here.top, hx, hd, hm', hret, hv, ht]
  first | (intro acts; rw [hl _ acts rfl rfl rfl]) | rw [hl _ _ rfl rfl rfl]
  exact Steps.refl _
theorem winI (X : Stand p l e R s m args below meth c T locs cells slots) (hx : p.tables.exec = Jvm.exec) (hlk : meth.locks = false) (eT : T.heap = h) {pc : Nat} {Ls : Array Slot} {z : Int32} {rest : List Value} (hret : meth.sig.returnType = some .int) (hd : decode c.code pc = .ok (.ireturn, 1))
    (hc : cells ≤ C) (hs : slots ≤ S) (hQ : Q (some (.int z)) h locs) : Win p.tables e below (PostQ s Q C S) (T.setTop (mkF m pc Ls (.int z :: rest))) := by
  subst eT
  obtain ⟨fs, hr, hrun, hended, hW, hsame⟩ := X.leave (v := some (.int z)) (fun h => by rw [hret] at h; cases h) hlk
  exact ⟨_, _, retI' X hx hret hd hr, hrun, hended, _, _, rfl, hQ, ⟨_, rfl⟩, hW, hsame.mono hc hs⟩
theorem winN (X : Stand p l e R s m args below meth c T locs cells slots) (hx : p.tables.exec = Jvm.exec) (hlk : meth.locks = false) (eT : T.heap = h) {pc : Nat} {Ls : Array Slot} {z z' : Int32} {rest : List Value} {t : FieldType} (hret : meth.sig.returnType = some t) (ht : t = .boolean ∨ t = .byte ∨ t = .char ∨ t = .short) (hd : decode c.code pc = .ok (.ireturn, 1))
    (hc : cells ≤ C) (hs : slots ≤ S) (hz : nar t z = z') (hQ : Q (some (.int z')) h locs) : Win p.tables e below (PostQ s Q C S) (T.setTop (mkF m pc Ls (.int z :: rest))) := by
  subst eT hz
  obtain ⟨fs, hr, hrun, hended, hW, hsame⟩ := X.leave (v := some (.int (nar t z))) (fun h => by rw [hret] at h; cases h) hlk
  exact ⟨_, _, retN X hx hret ht hd hr, hrun, hended, _, _, rfl, hQ, ⟨_, rfl⟩, hW, hsame.mono hc hs⟩
theorem winL (X : Stand p l e R s m args below meth c T locs cells slots) (hx : p.tables.exec = Jvm.exec) (hlk : meth.locks = false) (eT : T.heap = h) {pc : Nat} {Ls : Array Slot} {z : Int64} (hret : meth.sig.returnType = some .long) (hd : decode c.code pc = .ok (.lreturn, 1))
    (hc : cells ≤ C) (hs : slots ≤ S) (hQ : Q (some (.long z)) h locs) : Win p.tables e below (PostQ s Q C S) (T.setTop (mkF m pc Ls [.long z])) := by
  subst eT
  obtain ⟨fs, hr, hrun, hended, hW, hsame⟩ := X.leave (v := some (.long z)) (fun h => by rw [hret] at h; cases h) hlk
  exact ⟨_, _, X.lreturnOut hx hret hd hr, hrun, hended, _, _, rfl, hQ, ⟨_, rfl⟩, hW, hsame.mono hc hs⟩
theorem winA (X : Stand p l e R s m args below meth c T locs cells slots) (hx : p.tables.exec = Jvm.exec) (hlk : meth.locks = false) (eT : T.heap = h) {pc : Nat} {Ls : Array Slot} {w : Value} {t : FieldType} (hret : meth.sig.returnType = some t) (ht : t.isReference = true) (hv : w.isRef = true) (hd : decode c.code pc = .ok (.areturn, 1))
    (hc : cells ≤ C) (hs : slots ≤ S) (hQ : Q (some w) h locs) : Win p.tables e below (PostQ s Q C S) (T.setTop (mkF m pc Ls [w])) := by
  subst eT
  obtain ⟨fs, hr, hrun, hended, hW, hsame⟩ := X.leave (v := some w) (fun h => by rw [hret] at h; cases h) hlk
  exact ⟨_, _, retA' X hx hret ht hv hd hr, hrun, hended, _, _, rfl, hQ, ⟨_, rfl⟩, hW, hsame.mono hc hs⟩
theorem winV (X : Stand p l e R s m args below meth c T locs cells slots) (hx : p.tables.exec = Jvm.exec) (hlk : meth.locks = false) (eT : T.heap = h) {pc : Nat} {Ls : Array Slot} (hret : meth.sig.returnType = none) (hd : decode c.code pc = .ok (.return_, 1))
    (hc : cells ≤ C) (hs : slots ≤ S) (hQ : Q none h locs) : Win p.tables e below (PostQ s Q C S) (T.setTop (mkF m pc Ls [])) := by
  subst eT
  obtain ⟨fs, hr, hrun, hended, hW, hsame⟩ := X.leave (v := none) (fun _ => rfl) hlk
  exact ⟨_, _, X.returnOut hx hret hd hr, hrun, hended, _, _, rfl, hQ, ⟨_, rfl⟩, hW, hsame.mono hc hs⟩
def PostQW (s : State) (Q : Option Value → Heap → List Loc → Prop) (C S : Nat) (u : State) (o : Outcome) : Prop := ∃ v L, o = .returned v ∧ Q v u.heap L ∧ ReturnedEndW s o u L C S
theorem winNW {vm0 : Vm} {k0 : Nat} (hS : s.Since vm0 k0) (hk : k0 ≤ h.size) (X : Stand p l e R (s.setVm vm0) m args below meth c T locs cells slots) (hx : p.tables.exec = Jvm.exec) (hlk : meth.locks = false) (eT : T.heap = h) {pc : Nat} {Ls : Array Slot} {z z' : Int32} {rest : List Value} {t : FieldType} (hret : meth.sig.returnType = some t) (ht : t = .boolean ∨ t = .byte ∨ t = .char ∨ t = .short) (hd : decode c.code pc = .ok (.ireturn, 1))
    (hc : cells ≤ C) (hs : slots ≤ S) (hz : nar t z = z') (hQ : Q (some (.int z')) h locs) : Win p.tables e below (PostQW s Q C S) (T.setTop (mkF m pc Ls (.int z :: rest))) := by
  subst eT hz
  obtain ⟨fs, hr, hrun, hended, h1, h2, h3, h4⟩ := X.leaveW hS hk (v := some (.int (nar t z))) (fun h => by rw [hret] at h; cases h) hlk
  exact ⟨_, _, retN X hx hret ht hd hr, hrun, hended, _, _, rfl, hQ, ⟨_, rfl⟩, h2, h3, h4.mono hc hs⟩
end Ret
section Steps
variable {tb : Tables} [Ours tb] {e : Env} {below : List Frame} {P : State → Outcome → Prop} {T : State} {m : MethodId} {c : Code} {pc pc' : Nat} {ls : Array Slot} {st : List Value}
theorem s_iloadN {k : Fin 4} {v : Int32} (h : At T m c below) (hx : tb.exec = Jvm.exec) (hd : decode c.code pc = .ok (.iload_n k, 1)) (hp : pc + 1 = pc') (hl : ls[k.val]? = some (.val (.int v))) (w : Win tb e below P (T.setTop (mkF m pc' ls (.int v :: st)))) : Win tb e below P (T.setTop (mkF m pc ls st)) := by
  subst hp; exact Win.go (fun _ k => XS.iloadN h hx rfl hd hl k) w
theorem s_iload {k : Nat} {v : Int32} (h : At T m c below) (hx : tb.exec = Jvm.exec) (hd : decode c.code pc = .ok (.iload k, 2)) (hp : pc + 2 = pc') (hl : ls[k]? = some (.val (.int v))) (w : Win tb e below P (T.setTop (mkF m pc' ls (.int v :: st)))) : Win tb e below P (T.setTop (mkF m pc ls st)) := by
  subst hp; exact Win.go (fun _ k => XS.iload h hx rfl hd hl k) w
theorem s_lloadN {k : Fin 4} {v : Int64} (h : At T m c below) (hx : tb.exec = Jvm.exec) (hd : decode c.code pc = .ok (.lload_n k, 1)) (hp : pc + 1 = pc') (hl : ls[k.val]? = some (.val (.long v))) (w : Win tb e below P (T.setTop (mkF m pc' ls (.long v :: st)))) : Win tb e below P (T.setTop (mkF m pc ls st)) := by
  subst hp; exact Win.go (fun _ k => XS.lloadN h hx rfl hd hl k) w
theorem s_lload {k : Nat} {v : Int64} (h : At T m c below) (hx : tb.exec = Jvm.exec) (hd : decode c.code pc = .ok (.lload k, 2)) (hp : pc + 2 = pc') (hl : ls[k]? = some (.val (.long v))) (w : Win tb e below P (T.setTop (mkF m pc' ls (.long v :: st)))) : Win tb e below P (T.setTop (mkF m pc ls st)) := by
  subst hp; exact Win.go (fun _ k => XS.lload h hx rfl hd hl k) w
theorem s_aloadN {k : Fin 4} {v : Value} (h : At T m c below) (hx : tb.exec = Jvm.exec) (hd : decode c.code pc = .ok (.aload_n k, 1)) (hp : pc + 1 = pc') (hl : ls[k.val]? = some (.val v)) (hv : v.isRef = true) (w : Win tb e below P (T.setTop (mkF m pc' ls (v :: st)))) : Win tb e below P (T.setTop (mkF m pc ls st)) := by
  subst hp; exact Win.go (fun _ k => XS.aloadN h hx rfl hd hl hv k) w
theorem s_aload {k : Nat} {v : Value} (h : At T m c below) (hx : tb.exec = Jvm.exec) (hd : decode c.code pc = .ok (.aload k, 2)) (hp : pc + 2 = pc') (hl : ls[k]? = some (.val v)) (hv : v.isRef = true) (w : Win tb e below P (T.setTop (mkF m pc' ls (v :: st)))) : Win tb e below P (T.setTop (mkF m pc ls st)) := by
  subst hp; exact Win.go (fun _ k => XS.aload h hx rfl hd hl hv k) w
theorem s_iadd {x y : Int32} (h : At T m c below) (hx : tb.exec = Jvm.exec) (hd : decode c.code pc = .ok (.iadd, 1)) (hp : pc + 1 = pc') (w : Win tb e below P (T.setTop (mkF m pc' ls (.int (x + y) :: st)))) : Win tb e below P (T.setTop (mkF m pc ls (.int y :: .int x :: st))) := by
  subst hp; exact Win.go (fun _ k => XS.iadd h hx rfl hd rfl k) w
theorem s_isub {x y : Int32} (h : At T m c below) (hx : tb.exec = Jvm.exec) (hd : decode c.code pc = .ok (.isub, 1)) (hp : pc + 1 = pc') (w : Win tb e below P (T.setTop (mkF m pc' ls (.int (x - y) :: st)))) : Win tb e below P (T.setTop (mkF m pc ls (.int y :: .int x :: st))) := by
  subst hp; exact Win.go (fun _ k => XS.isub h hx rfl hd rfl k) w
theorem s_imul {x y : Int32} (h : At T m c below) (hx : tb.exec = Jvm.exec) (hd : decode c.code pc = .ok (.imul, 1)) (hp : pc + 1 = pc') (w : Win tb e below P (T.setTop (mkF m pc' ls (.int (x * y) :: st)))) : Win tb e below P (T.setTop (mkF m pc ls (.int y :: .int x :: st))) := by
  subst hp; exact Win.go (fun _ k => XS.imul h hx rfl hd rfl k) w
theorem s_iand {x y : Int32} (h : At T m c below) (hx : tb.exec = Jvm.exec) (hd : decode c.code pc = .ok (.iand, 1)) (hp : pc + 1 = pc') (w : Win tb e below P (T.setTop (mkF m pc' ls (.int (x &&& y) :: st)))) : Win tb e below P (T.setTop (mkF m pc ls (.int y :: .int x :: st))) := by
  subst hp; exact Win.go (fun _ k => XS.iand h hx rfl hd rfl k) w
theorem s_ior {x y : Int32} (h : At T m c below) (hx : tb.exec = Jvm.exec) (hd : decode c.code pc = .ok (.ior, 1)) (hp : pc + 1 = pc') (w : Win tb e below P (T.setTop (mkF m pc' ls (.int (x ||| y) :: st)))) : Win tb e below P (T.setTop (mkF m pc ls (.int y :: .int x :: st))) := by
  subst hp; exact Win.go (fun _ k => XS.ior h hx rfl hd rfl k) w
theorem s_ixor {x y : Int32} (h : At T m c below) (hx : tb.exec = Jvm.exec) (hd : decode c.code pc = .ok (.ixor, 1)) (hp : pc + 1 = pc') (w : Win tb e below P (T.setTop (mkF m pc' ls (.int (x ^^^ y) :: st)))) : Win tb e below P (T.setTop (mkF m pc ls (.int y :: .int x :: st))) := by
  subst hp; exact Win.go (fun _ k => XS.ixor h hx rfl hd rfl k) w
theorem s_ladd {x y : Int64} (h : At T m c below) (hx : tb.exec = Jvm.exec) (hd : decode c.code pc = .ok (.ladd, 1)) (hp : pc + 1 = pc') (w : Win tb e below P (T.setTop (mkF m pc' ls (.long (x + y) :: st)))) : Win tb e below P (T.setTop (mkF m pc ls (.long y :: .long x :: st))) := by
  subst hp; exact Win.go (fun _ k => XS.ladd h hx rfl hd rfl k) w
theorem s_lsub {x y : Int64} (h : At T m c below) (hx : tb.exec = Jvm.exec) (hd : decode c.code pc = .ok (.lsub, 1)) (hp : pc + 1 = pc') (w : Win tb e below P (T.setTop (mkF m pc' ls (.long (x - y) :: st)))) : Win tb e below P (T.setTop (mkF m pc ls (.long y :: .long x :: st))) := by
  subst hp; exact Win.go (fun _ k => XS.lsub h hx rfl hd rfl k) w
theorem s_lmul {x y : Int64} (h : At T m c below) (hx : tb.exec = Jvm.exec) (hd : decode c.code pc = .ok (.lmul, 1)) (hp : pc + 1 = pc') (w : Win tb e below P (T.setTop (mkF m pc' ls (.long (x * y) :: st)))) : Win tb e below P (T.setTop (mkF m pc ls (.long y :: .long x :: st))) := by
  subst hp; exact Win.go (fun _ k => XS.lmul h hx rfl hd rfl k) w
theorem s_land {x y : Int64} (h : At T m c below) (hx : tb.exec = Jvm.exec) (hd : decode c.code pc = .ok (.land, 1)) (hp : pc + 1 = pc') (w : Win tb e below P (T.setTop (mkF m pc' ls (.long (x &&& y) :: st)))) : Win tb e below P (T.setTop (mkF m pc ls (.long y :: .long x :: st))) := by
  subst hp; exact Win.go (fun _ k => XS.land h hx rfl hd rfl k) w
theorem s_lor {x y : Int64} (h : At T m c below) (hx : tb.exec = Jvm.exec) (hd : decode c.code pc = .ok (.lor, 1)) (hp : pc + 1 = pc') (w : Win tb e below P (T.setTop (mkF m pc' ls (.long (x ||| y) :: st)))) : Win tb e below P (T.setTop (mkF m pc ls (.long y :: .long x :: st))) := by
  subst hp; exact Win.go (fun _ k => XS.lor h hx rfl hd rfl k) w
theorem s_lxor {x y : Int64} (h : At T m c below) (hx : tb.exec = Jvm.exec) (hd : decode c.code pc = .ok (.lxor, 1)) (hp : pc + 1 = pc') (w : Win tb e below P (T.setTop (mkF m pc' ls (.long (x ^^^ y) :: st)))) : Win tb e below P (T.setTop (mkF m pc ls (.long y :: .long x :: st))) := by
  subst hp; exact Win.go (fun _ k => XS.lxor h hx rfl hd rfl k) w
theorem s_iconst {i : Int} {z : Int32} (h : At T m c below) (hx : tb.exec = Jvm.exec) (hd : decode c.code pc = .ok (.iconst i, 1)) (hp : pc + 1 = pc') (hz : Int32.ofInt i = z) (w : Win tb e below P (T.setTop (mkF m pc' ls (.int z :: st)))) : Win tb e below P (T.setTop (mkF m pc ls st)) := by
  subst hp hz; exact Win.go (fun _ k => XS.iconst h hx rfl hd k) w
theorem s_bipush {i : Int} {z : Int32} (h : At T m c below) (hx : tb.exec = Jvm.exec) (hd : decode c.code pc = .ok (.bipush i, 2)) (hp : pc + 2 = pc') (hz : (Int8.ofInt i).toInt32 = z) (w : Win tb e below P (T.setTop (mkF m pc' ls (.int z :: st)))) : Win tb e below P (T.setTop (mkF m pc ls st)) := by
  subst hp hz; exact Win.go (fun _ k => XS.bipush h hx rfl hd k) w
theorem s_sipush {i : Int} {z : Int32} (h : At T m c below) (hx : tb.exec = Jvm.exec) (hd : decode c.code pc = .ok (.sipush i, 3)) (hp : pc + 3 = pc') (hz : (Int16.ofInt i).toInt32 = z) (w : Win tb e below P (T.setTop (mkF m pc' ls (.int z :: st)))) : Win tb e below P (T.setTop (mkF m pc ls st)) := by
  subst hp hz; exact Win.go (fun _ k => XS.sipush h hx rfl hd k) w
theorem s_lconst {i : Fin 2} {z : Int64} (h : At T m c below) (hx : tb.exec = Jvm.exec) (hd : decode c.code pc = .ok (.lconst i, 1)) (hp : pc + 1 = pc') (hz : Int64.ofNat i = z) (w : Win tb e below P (T.setTop (mkF m pc' ls (.long z :: st)))) : Win tb e below P (T.setTop (mkF m pc ls st)) := by
  subst hp hz; exact Win.go (fun _ k => XS.lconst h hx rfl hd k) w
theorem s_goto {o : Int} (h : At T m c below) (hx : tb.exec = Jvm.exec) (hd : decode c.code pc = .ok (.goto o, 3)) (ho : 0 ≤ (pc : Int) + o) (hp : ((pc : Int) + o).toNat = pc') (w : Win tb e below P (T.setTop (mkF m pc' ls st))) : Win tb e below P (T.setTop (mkF m pc ls st)) := by
  exact Win.go (fun _ k => XS.goto h hx rfl rfl hd ho hp k) w
theorem s_icmpYes {cd : ClassFile.Cond} {o : Int} {x y : Int32} (h : At T m c below) (hx : tb.exec = Jvm.exec) (hd : decode c.code pc = .ok (.if_icmp cd o, 3)) (hc : if_icmp.holds cd x y = true) (ho : 0 ≤ (pc : Int) + o) (hp : ((pc : Int) + o).toNat = pc') (w : Win tb e below P (T.setTop (mkF m pc' ls st))) : Win tb e below P (T.setTop (mkF m pc ls (.int y :: .int x :: st))) := by
  exact Win.go (fun _ k => XS.icmpYes h hx rfl rfl hd rfl hc ho hp k) w
theorem s_icmpNo {cd : ClassFile.Cond} {o : Int} {x y : Int32} (h : At T m c below) (hx : tb.exec = Jvm.exec) (hd : decode c.code pc = .ok (.if_icmp cd o, 3)) (hp : pc + 3 = pc') (hc : if_icmp.holds cd x y = false) (w : Win tb e below P (T.setTop (mkF m pc' ls st))) : Win tb e below P (T.setTop (mkF m pc ls (.int y :: .int x :: st))) := by
  subst hp; exact Win.go (fun _ k => XS.icmpNo h hx rfl hd rfl hc k) w
theorem s_ifYes {cd : ClassFile.Cond} {o : Int} {x : Int32} (h : At T m c below) (hx : tb.exec = Jvm.exec) (hd : decode c.code pc = .ok (.ifCond cd o, 3)) (hc : ifCond.holds cd x = true) (ho : 0 ≤ (pc : Int) + o) (hp : ((pc : Int) + o).toNat = pc') (w : Win tb e below P (T.setTop (mkF m pc' ls st))) : Win tb e below P (T.setTop (mkF m pc ls (.int x :: st))) := by
  exact Win.go (fun _ k => XS.ifYes h hx rfl rfl hd rfl hc ho hp k) w
theorem s_ifNo {cd : ClassFile.Cond} {o : Int} {x : Int32} (h : At T m c below) (hx : tb.exec = Jvm.exec) (hd : decode c.code pc = .ok (.ifCond cd o, 3)) (hp : pc + 3 = pc') (hc : ifCond.holds cd x = false) (w : Win tb e below P (T.setTop (mkF m pc' ls st))) : Win tb e below P (T.setTop (mkF m pc ls (.int x :: st))) := by
  subst hp; exact Win.go (fun _ k => XS.ifNo h hx rfl hd rfl hc k) w
theorem s_lcmp {x y : Int64} (h : At T m c below) (hx : tb.exec = Jvm.exec) (hd : decode c.code pc = .ok (.lcmp, 1)) (hp : pc + 1 = pc') (w : Win tb e below P (T.setTop (mkF m pc' ls (.int (lcmpW x y) :: st)))) : Win tb e below P (T.setTop (mkF m pc ls (.long y :: .long x :: st))) := by
  subst hp; exact Win.go (fun _ k => XS.lcmp h hx rfl hd rfl k) w
theorem s_istore {k : Nat} {x : Int32} {l' : Array Slot} (h : At T m c below) (hx : tb.exec = Jvm.exec) (hd : decode c.code pc = .ok (.istore k, 2)) (hp : pc + 2 = pc') (hl : storeLocals ls k (.int x) = some l') (w : Win tb e below P (T.setTop (mkF m pc' l' st))) : Win tb e below P (T.setTop (mkF m pc ls (.int x :: st))) := by
  subst hp; exact Win.go (fun _ k => XS.istore h hx rfl hd rfl hl k) w
theorem s_istoreN {k : Fin 4} {x : Int32} {l' : Array Slot} (h : At T m c below) (hx : tb.exec = Jvm.exec) (hd : decode c.code pc = .ok (.istore_n k, 1)) (hp : pc + 1 = pc') (hl : storeLocals ls k.val (.int x) = some l') (w : Win tb e below P (T.setTop (mkF m pc' l' st))) : Win tb e below P (T.setTop (mkF m pc ls (.int x :: st))) := by
  subst hp; exact Win.go (fun _ k => XS.istoreN h hx rfl hd rfl hl k) w
theorem s_lstore {k : Nat} {x : Int64} {l' : Array Slot} (h : At T m c below) (hx : tb.exec = Jvm.exec) (hd : decode c.code pc = .ok (.lstore k, 2)) (hp : pc + 2 = pc') (hl : storeLocals ls k (.long x) = some l') (w : Win tb e below P (T.setTop (mkF m pc' l' st))) : Win tb e below P (T.setTop (mkF m pc ls (.long x :: st))) := by
  subst hp; exact Win.go (fun _ k => XS.lstore h hx rfl hd rfl hl k) w
theorem s_lstoreN {k : Fin 4} {x : Int64} {l' : Array Slot} (h : At T m c below) (hx : tb.exec = Jvm.exec) (hd : decode c.code pc = .ok (.lstore_n k, 1)) (hp : pc + 1 = pc') (hl : storeLocals ls k.val (.long x) = some l') (w : Win tb e below P (T.setTop (mkF m pc' l' st))) : Win tb e below P (T.setTop (mkF m pc ls (.long x :: st))) := by
  subst hp; exact Win.go (fun _ k => XS.lstoreN h hx rfl hd rfl hl k) w
theorem s_astore {k : Nat} {x : Value} {l' : Array Slot} (h : At T m c below) (hx : tb.exec = Jvm.exec) (hd : decode c.code pc = .ok (.astore k, 2)) (hp : pc + 2 = pc') (hv : x.isRef = true) (hl : storeLocals ls k x = some l') (w : Win tb e below P (T.setTop (mkF m pc' l' st))) : Win tb e below P (T.setTop (mkF m pc ls (x :: st))) := by
  subst hp; exact Win.go (fun _ k => XS.astore h hx rfl hd rfl hv hl k) w
theorem s_astoreN {k : Fin 4} {x : Value} {l' : Array Slot} (h : At T m c below) (hx : tb.exec = Jvm.exec) (hd : decode c.code pc = .ok (.astore_n k, 1)) (hp : pc + 1 = pc') (hv : x.isRef = true) (hl : storeLocals ls k.val x = some l') (w : Win tb e below P (T.setTop (mkF m pc' l' st))) : Win tb e below P (T.setTop (mkF m pc ls (x :: st))) := by
  subst hp; exact Win.go (fun _ k => XS.astoreN h hx rfl hd rfl hv hl k) w
theorem s_dup {x : Value} (h : At T m c below) (hx : tb.exec = Jvm.exec) (hd : decode c.code pc = .ok (.dup, 1)) (hp : pc + 1 = pc') (hc : x.category = 1) (w : Win tb e below P (T.setTop (mkF m pc' ls (x :: x :: st)))) : Win tb e below P (T.setTop (mkF m pc ls (x :: st))) := by
  subst hp; exact Win.go (fun _ k => XS.dup h hx rfl hd rfl hc k) w
end Steps
/-- an array of ints by its places: place j holds f j -/
def AF (Z : State) (h : Heap) (a : Addr) (ty : FieldType) (n : Nat) (f : Int → Int32) : Prop := ∃ cl : Cell, Arr Z h a cl ty ∧ cl.slots.size = n ∧ ∀ j : Int32, 0 ≤ j.toInt → j.toInt < n → cl.slots[j.toNatClampNeg]? = some (.int (f j.toInt))
section AFs
variable {Z : State} {h h' : Heap} {a b : Addr} {ty : FieldType} {n : Nat} {f : Int → Int32} {ws : List Addr} {sl : Nat} {v : Value}
theorem AF.lt (F : AF Z h a ty n f) : a < h.size := by obtain ⟨c, A, -⟩ := F; exact A.lt
theorem AF.ext (F : AF Z h a ty n f) (E : Ext h h') : AF Z h' a ty n f := by obtain ⟨c, A, r⟩ := F; exact ⟨c, A.ext E, r⟩
theorem AF.other (F : AF Z h b ty n f) (W : Wr h h' a sl v) (q : b ≠ a) : AF Z h' b ty n f := by obtain ⟨c, A, r⟩ := F; exact ⟨c, A.other W q, r⟩
theorem AF.keep (F : AF Z h a ty n f) (K : Keep h h' ws) (q : a ∉ ws) : AF Z h' a ty n f := by obtain ⟨c, A, r⟩ := F; exact ⟨c, ⟨K.2.1 a c A.1 q, A.2⟩, r⟩
theorem AF.inb {c : Cell} {j : Int32} (S : c.slots.size = n) (q : 0 ≤ j.toInt ∧ j.toInt < n) : ¬ (j < 0 ∨ c.slots.size ≤ j.toNatClampNeg) := by
  rw [S, Int32.lt_iff_toInt_lt]; have e0 : (0 : Int32).toInt = 0 := rfl
  simp only [Int32.toNatClampNeg]; omega
def updF (f : Int → Int32) (j : Int) (v : Int32) : Int → Int32 := fun i => if i = j then v else f i
theorem updF_hit (f : Int → Int32) (j : Int) (v : Int32) : updF f j v j = v := if_pos rfl
theorem updF_miss {f : Int → Int32} {i j : Int} {v : Int32} (q : i ≠ j) : updF f j v i = f i := if_neg q
theorem AF.set {cl : Cell} {j v : Int32} (A : Arr Z h a cl ty) (S : cl.slots.size = n) (G : ∀ j : Int32, 0 ≤ j.toInt → j.toInt < n → cl.slots[j.toNatClampNeg]? = some (.int (f j.toInt))) (W : Wr h h' a j.toNatClampNeg (.int v)) (q : 0 ≤ j.toInt ∧ j.toInt < n) : AF Z h' a ty n (updF f j.toInt v) := by
  have e0 : (0 : Int32).toInt = 0 := rfl
  refine ⟨_, A.same W, by rw [sz_set]; exact S, fun k h0 h1 => ?_⟩
  by_cases e : k = j
  · subst e; rw [get_hit (AF.inb S q) rfl, updF_hit]
  · rw [get_miss (by rw [Int32.lt_iff_toInt_lt]; omega) (by rw [Int32.lt_iff_toInt_lt]; omega) e, updF_miss (fun z => e (Int32.toInt_inj.mp z))]; exact G k h0 h1
theorem AF.zero {k : ClassId} {z : Int32} (F : Arv Z h a k ty z [] (.int 0)) (q : z.toNatClampNeg = n) : AF Z h a ty n (fun _ => 0) := by
  obtain ⟨c, A, -, S, -, H, -⟩ := F
  refine ⟨c, A, S.trans q, fun j h0 h1 => ?_⟩
  have e : j.toNatClampNeg = j.toInt.toNat := rfl
  exact H _ (by rw [S, q, e]; omega)
theorem AF.ex {k : ClassId} {z : Int32} {vs : List Value} {dv : Value} (F : Arv Z h a k .byte z vs dv) (q : z.toNatClampNeg = n) : ∃ f, AF Z h a .byte n f := by
  obtain ⟨c, A, -, S, -, H, G⟩ := F
  refine ⟨fun i => match c.slots[i.toNat]? with | some (.int x) => x | _ => 0, c, A, S.trans q, fun j h0 h1 => ?_⟩
  have e : j.toNatClampNeg = j.toInt.toNat := rfl
  have hj : j.toInt.toNat < c.slots.size := by rw [S, q]; omega
  have e1 := H _ hj
  have e2 := G _ hj
  show c.slots[j.toInt.toNat]? = some (.int (match c.slots[j.toInt.toNat]? with | some (.int x) => x | _ => 0))
  cases hv : vs.getD j.toInt.toNat dv <;> rw [hv] at e1 e2 <;> first | (rw [e1]; done) | (exact absurd e2 (by simp [fits]))
/-- a byte array of length z -/
def BA (Z : State) (h : Heap) (a : Addr) (z : Int32) : Prop := ∃ (k : ClassId) (vs : List Value), Arv Z h a k .byte z vs (.int 0)
variable {z : Int32}
theorem BA.lt (F : BA Z h a z) : a < h.size := by obtain ⟨_, _, A⟩ := F; exact A.lt
theorem BA.ext (F : BA Z h a z) (E : Ext h h') : BA Z h' a z := by obtain ⟨k, vs, A⟩ := F; exact ⟨k, vs, A.ext E⟩
theorem BA.other (F : BA Z h b z) (W : Wr h h' a sl v) (q : b ≠ a) : BA Z h' b z := by obtain ⟨k, vs, A⟩ := F; exact ⟨k, vs, A.other W q⟩
theorem BA.keep (F : BA Z h a z) (K : Keep h h' ws) (q : a ∉ ws) : BA Z h' a z := by obtain ⟨k, vs, A⟩ := F; exact ⟨k, vs, A.keep K q⟩
theorem cpBA {p : Program} {l : Launch} {e : Env} {R : Room} {s : State} {m : MethodId} {args : Array Value} {below : List Frame} {meth : Method} {c : Code} {T : State} {locs : List Loc} {cells slots : Nat}
    (X : Stand p l e R s m args below meth c T locs cells slots) (hx : p.tables.exec = Jvm.exec) (hZ : Z.Warmed39 s.vm) {a0 : Array Value} {own : String} {index : Nat} (hown : s.vm.findClass own = some m.cls)
    (w1 : (Cond.methodLink own index Jvm.Stand.acN).before a0 Z = true) (w2 : (Cond.native Jvm.Stand.acN).before a0 Z = true) (w3 : (Cond.static Jvm.Stand.acN).before a0 Z = true) (w4 : (Cond.initialized "java/lang/System").before a0 Z = true) (eT : T.heap = h)
    {z' sp dp nn : Int32} (A : BA Z h a z) (B : BA Z h b z') (h1 : 0 ≤ sp.toInt) (h2 : 0 ≤ dp.toInt) (h3 : 0 ≤ nn.toInt) (h4 : sp.toInt + nn.toInt ≤ z.toInt) (h5 : dp.toInt + nn.toInt ≤ z'.toInt) {n0 : Nat} (N : Fr n0 locs) (ge : n0 ≤ b)
    {g : JFrame} (hg : g.method = m) (hsize : g.locals.size = c.maxLocals) {rest : List Value} (hs : g.stack = .int nn :: .int dp :: .ref b :: .int sp :: .ref a :: rest) (hd : decode c.code g.pc = .ok (.invokestatic index, 3))
    (hf : 1 ≤ R.frames) {W : Nat} (hW : 2 * g.monitorRoom + (rest.map fun v => v.category).sum ≤ W) (hlo : W + (nativeFrameWords "java/lang/System" "arraycopy" 5 + 11) ≤ R.locals) :
    ∃ T' h' L, Stand p l e R s m args below meth c T' L cells slots ∧ T'.heap = h' ∧ Fr n0 L ∧ Keep h h' [b] ∧ BA Z h' b z' ∧
      ∀ target, Steps p.tables e below (T'.setTop { g with pc := g.pc + 3, stack := rest }) target → Steps p.tables e below (T.setTop g) target := by
  have e0 : (0 : Int32).toInt = 0 := rfl
  obtain ⟨k, vs, A⟩ := A
  obtain ⟨k', vd, B⟩ := B
  have B' := B.pad (pad_rep vd (.int 0) z'.toNatClampNeg)
  obtain ⟨T', h', L, X', e', N', K, B2, st⟩ := cpA X hx hZ hown w1 w2 w3 w4 eT A B' (Or.inl ⟨rfl, rfl⟩) (by rw [Int32.lt_iff_toInt_lt]; omega) (by rw [Int32.lt_iff_toInt_lt]; omega) (by rw [Int32.lt_iff_toInt_lt]; omega) (by simp only [Int32.toNatClampNeg]; omega) (by simp only [Int32.toNatClampNeg]; omega) rfl (by simp only [List.length_append, List.length_replicate, Int32.toNatClampNeg]; omega) N ge hg hsize hs hd hf hW hlo
  exact ⟨T', h', L, X', e', N', K, ⟨k', _, B2⟩, st⟩
end AFs
theorem own_selPriv {s : State} {args : Array Value} {y y' : MethodName} (hn : y.cls = y'.cls) (w : (Cond.selects y'.cls y' y').before args s = true) (hpriv : s.PrivateAt y) (hinst : (Cond.instanceMethod y).before args s = true) (hy : y.cls ≠ "java/lang/invoke/MethodHandle" ∧ y.cls ≠ "java/lang/invoke/VarHandle") : (Cond.selects y.cls y y).before args s = true := by
  obtain ⟨c, r, m, h1, -, h3, -, k, h5, h6⟩ := Cond.selects_spec w
  have h7 := findClass_of_methodNamed h3
  cases h1.symm.trans h7
  exact selects_self_of_private (by rw [hn]; exact h7) h5 h6 hpriv hinst hy
theorem own_lremEq (x y : Int64) : x - (x / y) * y = x % y := by
  refine Int64.toInt_inj.mp ?_
  have h1 := rng64 (x % y)
  have e : x.toInt - x.toInt.tdiv y.toInt * y.toInt = (x % y).toInt := by rw [Int64.toInt_mod, Int.tmod_def, Int.mul_comm]
  rw [Int64.toInt_sub, Int64.toInt_mul, Int64.toInt_div, Int.bmod_mul_bmod, Int.sub_bmod_bmod, e]
  exact Int.bmod_eq_of_le_mul_two (by omega) (by omega)
theorem lremM {p : Program} {l : Launch} {e : Env} {R : Room} {s : State} {m : MethodId} {args : Array Value} {below : List Frame} {meth : Method} {c : Code} {T : State} {locs : List Loc} {cells slots : Nat} {g : JFrame} {target : State} (X : Stand p l e R s m args below meth c T locs cells slots) (hx : p.tables.exec = Jvm.exec) (hg : g.method = m) {x y : Int64} {rest : List Value} (hd : decode c.code g.pc = .ok (.lrem, 1)) (hs : g.stack = .long y :: .long x :: rest) (hy : y ≠ 0)
    (hr : Steps p.tables e below (T.setTop { g with pc := g.pc + 1, stack := .long (x % y) :: rest }) target) : Steps p.tables e below (T.setTop g) target :=
  XS.lrem X.here hx hg hd hs hy (by rw [own_lremEq]; exact hr)
/-! comparisons by the numbers -/
theorem tltI {x y : Int32} (h : x.toInt < y.toInt) : if_icmp.holds .lt x y = true ∧ if_icmp.holds .ge x y = false ∧ if_icmp.holds .gt y x = true ∧ if_icmp.holds .le y x = false := tlt (Int32.lt_iff_toInt_lt.mpr h)
theorem fltI {x y : Int32} (h : ¬ x.toInt < y.toInt) : if_icmp.holds .lt x y = false ∧ if_icmp.holds .ge x y = true ∧ if_icmp.holds .gt y x = false ∧ if_icmp.holds .le y x = true := flt (fun q => h (Int32.lt_iff_toInt_lt.mp q))
theorem teqI {x y : Int32} (h : x.toInt = y.toInt) : if_icmp.holds .eq x y = true ∧ if_icmp.holds .ne x y = false := teq (Int32.toInt_inj.mp h)
theorem feqI {x y : Int32} (h : ¬ x.toInt = y.toInt) : if_icmp.holds .eq x y = false ∧ if_icmp.holds .ne x y = true := feq (fun q => h (congrArg _ q))
theorem tltZ {x y : Int32} (h : x.toInt < y.toInt) : (y = 0 → ifCond.holds .lt x = true ∧ ifCond.holds .ge x = false) ∧ (x = 0 → ifCond.holds .gt y = true ∧ ifCond.holds .le y = false) :=
  ⟨fun q => by subst q; exact ⟨(if0 _ _).trans (tltI h).1, (if0 _ _).trans (tltI h).2.1⟩, fun q => by subst q; exact ⟨(if0 _ _).trans (tltI h).2.2.1, (if0 _ _).trans (tltI h).2.2.2⟩⟩
theorem tltL {x y : Int64} (h : x.toInt < y.toInt) : ifCond.holds .lt (lcmpW x y) = true ∧ ifCond.holds .ge (lcmpW x y) = false ∧ ifCond.holds .gt (lcmpW y x) = true ∧ ifCond.holds .le (lcmpW y x) = false :=
  have h' := Int64.lt_iff_toInt_lt.mpr h
  ⟨(if0 _ _).trans (tlt ((lw_lt x y).mpr h')).1, (if0 _ _).trans (tlt ((lw_lt x y).mpr h')).2.1, (if0 _ _).trans (tlt ((lw_gt y x).mpr h')).2.2.1, (if0 _ _).trans (tlt ((lw_gt y x).mpr h')).2.2.2⟩
theorem fltL {x y : Int64} (h : ¬ x.toInt < y.toInt) : ifCond.holds .lt (lcmpW x y) = false ∧ ifCond.holds .ge (lcmpW x y) = true ∧ ifCond.holds .gt (lcmpW y x) = false ∧ ifCond.holds .le (lcmpW y x) = true :=
  have h1 : ¬ lcmpW x y < 0 := fun q => h (Int64.lt_iff_toInt_lt.mp ((lw_lt x y).mp q))
  have h2 : ¬ 0 < lcmpW y x := fun q => h (Int64.lt_iff_toInt_lt.mp ((lw_gt y x).mp q))
  ⟨(if0 _ _).trans (flt h1).1, (if0 _ _).trans (flt h1).2.1, (if0 _ _).trans (flt h2).2.2.1, (if0 _ _).trans (flt h2).2.2.2⟩
theorem teqL {x y : Int64} (h : x.toInt = y.toInt) : ifCond.holds .eq (lcmpW x y) = true ∧ ifCond.holds .ne (lcmpW x y) = false :=
  have h' := (lw_eq x y).mpr (Int64.toInt_inj.mp h)
  ⟨(if0 _ _).trans (teq h').1, (if0 _ _).trans (teq h').2⟩
theorem feqL {x y : Int64} (h : ¬ x.toInt = y.toInt) : ifCond.holds .eq (lcmpW x y) = false ∧ ifCond.holds .ne (lcmpW x y) = true :=
  have h' : ¬ lcmpW x y = 0 := fun q => h (congrArg _ ((lw_eq x y).mp q))
  ⟨(if0 _ _).trans (feq h').1, (if0 _ _).trans (feq h').2⟩
end Jvm.OwnWalk
namespace Jvm.Pilot.@@N@@
open Jvm Jvm.ClassFile Sem Op Lib Jvm.Free Jvm.Stand Jvm.LawKit Jvm.RoadKit Bundle Jvm.OwnWalk Jvm.Pilot.@@N@@.Jvm.D
theorem own_clr1 (x : Int) (v : Int32) : updF (updF (fun _ => 0) x v) x 0 = (fun _ => (0 : Int32)) := by
  funext z; by_cases q : z = x
  · subst q; rw [updF_hit]
  · rw [updF_miss q, updF_miss q]
theorem own_clr2 (x y : Int) (v w : Int32) : updF (updF (updF (updF (fun _ => 0) x v) y w) x 0) y 0 = (fun _ => (0 : Int32)) := by
  funext z; by_cases q : z = y
  · subst q; rw [updF_hit]
  · by_cases r : z = x
    · subst r; rw [updF_miss q, updF_hit]
    · rw [updF_miss q, updF_miss r, updF_miss q, updF_miss r]
theorem own_three {v : Int32} (h0 : 0 ≤ v.toInt) (h1 : v.toInt ≤ 2) : v = 0 ∨ v = 1 ∨ v = 2 := by
  have e : ∀ k : Int32, v.toInt = k.toInt → v = k := fun k q => Int32.toInt_inj.mp q
  have : v.toInt = 0 ∨ v.toInt = 1 ∨ v.toInt = 2 := by omega
  rcases this with q | q | q
  · exact Or.inl (e 0 q)
  · exact Or.inr (Or.inl (e 1 q))
  · exact Or.inr (Or.inr (e 2 q))
theorem d1_0 : decode prog_53_method_1_code 0 = .ok (.aload_n 0, 1) := by decide +kernel
theorem d1_1 : decode prog_53_method_1_code 1 = .ok (.invokespecial 1, 3) := by decide +kernel
theorem d1_4 : decode prog_53_method_1_code 4 = .ok (.aload_n 0, 1) := by decide +kernel
theorem d1_5 : decode prog_53_method_1_code 5 = .ok (.bipush 16, 2) := by decide +kernel
theorem d1_7 : decode prog_53_method_1_code 7 = .ok (.newarray .int, 2) := by decide +kernel
theorem d1_9 : decode prog_53_method_1_code 9 = .ok (.putfield 7, 3) := by decide +kernel
theorem d1_12 : decode prog_53_method_1_code 12 = .ok (.aload_n 0, 1) := by decide +kernel
theorem d1_13 : decode prog_53_method_1_code 13 = .ok (.bipush 16, 2) := by decide +kernel
theorem d1_15 : decode prog_53_method_1_code 15 = .ok (.newarray .int, 2) := by decide +kernel
theorem d1_17 : decode prog_53_method_1_code 17 = .ok (.putfield 13, 3) := by decide +kernel
theorem d1_20 : decode prog_53_method_1_code 20 = .ok (.aload_n 0, 1) := by decide +kernel
theorem d1_21 : decode prog_53_method_1_code 21 = .ok (.bipush 16, 2) := by decide +kernel
theorem d1_23 : decode prog_53_method_1_code 23 = .ok (.newarray .int, 2) := by decide +kernel
theorem d1_25 : decode prog_53_method_1_code 25 = .ok (.putfield 16, 3) := by decide +kernel
theorem d1_28 : decode prog_53_method_1_code 28 = .ok (.aload_n 0, 1) := by decide +kernel
theorem d1_29 : decode prog_53_method_1_code 29 = .ok (.bipush 16, 2) := by decide +kernel
theorem d1_31 : decode prog_53_method_1_code 31 = .ok (.newarray .int, 2) := by decide +kernel
theorem d1_33 : decode prog_53_method_1_code 33 = .ok (.putfield 19, 3) := by decide +kernel
theorem d1_36 : decode prog_53_method_1_code 36 = .ok (.aload_n 0, 1) := by decide +kernel
theorem d1_37 : decode prog_53_method_1_code 37 = .ok (.bipush 16, 2) := by decide +kernel
theorem d1_39 : decode prog_53_method_1_code 39 = .ok (.newarray .int, 2) := by decide +kernel
theorem d1_41 : decode prog_53_method_1_code 41 = .ok (.putfield 22, 3) := by decide +kernel
theorem d1_44 : decode prog_53_method_1_code 44 = .ok (.aload_n 0, 1) := by decide +kernel
theorem d1_45 : decode prog_53_method_1_code 45 = .ok (.bipush 16, 2) := by decide +kernel
theorem d1_47 : decode prog_53_method_1_code 47 = .ok (.newarray .boolean, 2) := by decide +kernel
theorem d1_49 : decode prog_53_method_1_code 49 = .ok (.putfield 25, 3) := by decide +kernel
theorem d1_52 : decode prog_53_method_1_code 52 = .ok (.aload_n 0, 1) := by decide +kernel
theorem d1_53 : decode prog_53_method_1_code 53 = .ok (.iload_n 1, 1) := by decide +kernel
theorem d1_54 : decode prog_53_method_1_code 54 = .ok (.iconst 1, 1) := by decide +kernel
theorem d1_55 : decode prog_53_method_1_code 55 = .ok (.iadd, 1) := by decide +kernel
theorem d1_56 : decode prog_53_method_1_code 56 = .ok (.newarray .int, 2) := by decide +kernel
theorem d1_58 : decode prog_53_method_1_code 58 = .ok (.putfield 29, 3) := by decide +kernel
theorem d1_61 : decode prog_53_method_1_code 61 = .ok (.return_, 1) := by decide +kernel
theorem pn_1 : plainName "com/example/nearstable/nearstable/maximal/Players" = true := by first | (simp [plainName, overriddenIn]; done) | decide +kernel
theorem ef_1 (m : MethodId) (a : Addr) : entryFrame m #[(.ref a), (.int (7 : Int32))] 2 = mkF m 0 #[.val (.ref a), .val (.int (7 : Int32))] [] := by first | (simp [entryFrame, mkF, argsToLocals, Value.category]; done) | rfl
def Q1 (Z : State) (a : Addr) (h0 : Heap) (n0 : Nat) (v : Option Value) (h : Heap) (L : List Loc) : Prop := Fr n0 L ∧ Keep h0 h [a] ∧ (∃ (pl : Addr) (fi : Addr) (de : Addr) (ed : Addr) (pa : Addr) (el : Addr) (sp : Addr), (n0 ≤ pl) ∧ (h0.size ≤ pl) ∧ (n0 ≤ fi) ∧ (h0.size ≤ fi) ∧ (n0 ≤ de) ∧ (h0.size ≤ de) ∧ (n0 ≤ ed) ∧ (h0.size ≤ ed) ∧ (n0 ≤ pa) ∧ (h0.size ≤ pa) ∧ (n0 ≤ el) ∧ (h0.size ≤ el) ∧ (n0 ≤ sp) ∧ (h0.size ≤ sp) ∧ (pl ≠ fi) ∧ (pl ≠ de) ∧ (pl ≠ ed) ∧ (pl ≠ pa) ∧ (pl ≠ el) ∧ (pl ≠ sp) ∧ (fi ≠ de) ∧ (fi ≠ ed) ∧ (fi ≠ pa) ∧ (fi ≠ el) ∧ (fi ≠ sp) ∧ (de ≠ ed) ∧ (de ≠ pa) ∧ (de ≠ el) ∧ (de ≠ sp) ∧ (ed ≠ pa) ∧ (ed ≠ el) ∧ (ed ≠ sp) ∧ (pa ≠ el) ∧ (pa ≠ sp) ∧ (el ≠ sp) ∧ (Fld Z h a "com/example/nearstable/nearstable/maximal/Players" "player" "[I" (.ref pl)) ∧ (Fld Z h a "com/example/nearstable/nearstable/maximal/Players" "first" "[I" (.ref fi)) ∧ (Fld Z h a "com/example/nearstable/nearstable/maximal/Players" "degree" "[I" (.ref de)) ∧ (Fld Z h a "com/example/nearstable/nearstable/maximal/Players" "edges" "[I" (.ref ed)) ∧ (Fld Z h a "com/example/nearstable/nearstable/maximal/Players" "partner" "[I" (.ref pa)) ∧ (Fld Z h a "com/example/nearstable/nearstable/maximal/Players" "edgeLeft" "[Z" (.ref el)) ∧ (Fld Z h a "com/example/nearstable/nearstable/maximal/Players" "slotPlus1" "[I" (.ref sp)) ∧ (Fld Z h a "com/example/nearstable/nearstable/maximal/Players" "slots" "I" (.int (0 : Int32))) ∧ (Fld Z h a "com/example/nearstable/nearstable/maximal/Players" "edgeCount" "I" (.int (0 : Int32))) ∧ (AF Z h pl .int 16 (fun _ => 0)) ∧ (AF Z h fi .int 16 (fun _ => 0)) ∧ (AF Z h de .int 16 (fun _ => 0)) ∧ (AF Z h ed .int 16 (fun _ => 0)) ∧ (AF Z h pa .int 16 (fun _ => 0)) ∧ (AF Z h el .boolean 16 (fun _ => 0)) ∧ (AF Z h sp .int 8 (fun _ => 0))) ∧ v = none
set_option maxRecDepth 65536 in
set_option maxHeartbeats 40000000 in
theorem rm1 (l : Launch) (Z : State) (a0 : Array Value) (hw : ∀ d ∈ tables_1, d.before a0 Z = true) (ws : List Jvm.Cond) (a : Addr) (h0 : Heap) (n0 : Nat) (Zs : n0 ≤ h0.size) (E_a : Exa Z h0 a "com/example/nearstable/nearstable/maximal/Players") (F_player_a : Fld Z h0 a "com/example/nearstable/nearstable/maximal/Players" "player" "[I" .null) (F_first_a : Fld Z h0 a "com/example/nearstable/nearstable/maximal/Players" "first" "[I" .null) (F_degree_a : Fld Z h0 a "com/example/nearstable/nearstable/maximal/Players" "degree" "[I" .null) (F_edges_a : Fld Z h0 a "com/example/nearstable/nearstable/maximal/Players" "edges" "[I" .null) (F_partner_a : Fld Z h0 a "com/example/nearstable/nearstable/maximal/Players" "partner" "[I" .null) (F_edgeLeft_a : Fld Z h0 a "com/example/nearstable/nearstable/maximal/Players" "edgeLeft" "[Z" .null) (F_slotPlus1_a : Fld Z h0 a "com/example/nearstable/nearstable/maximal/Players" "slotPlus1" "[I" .null) (F_slots_a : Fld Z h0 a "com/example/nearstable/nearstable/maximal/Players" "slots" "I" (.int (0 : Int32))) (F_edgeCount_a : Fld Z h0 a "com/example/nearstable/nearstable/maximal/Players" "edgeCount" "I" (.int (0 : Int32))) (g_a : n0 ≤ a) :
    MetFree l (⟨"com/example/nearstable/nearstable/maximal/Players", "<init>", "(I)V"⟩ : MethodName) (head1 (Jvm.Cond.code (⟨"com/example/nearstable/nearstable/maximal/Players", "<init>", "(I)V"⟩ : MethodName) prog_53_method_1_code 2 none :: ws) ({ frames := 1, cells := 7, slots := 104, locals := 12 } : Room)) (fun as' U => as' = #[(.ref a), (.int (7 : Int32))] ∧ Z.Warmed39 U.vm ∧ U.heap = h0) (fun _ _ _ _ _ => True) (fun _ U o U' => ∃ v L, o = .returned v ∧ Q1 Z a h0 n0 v U'.heap L ∧ FrameEnd U o U' L ({ frames := 1, cells := 7, slots := 104, locals := 12 } : Room).cells ({ frames := 1, cells := 7, slots := 104, locals := 12 } : Room).slots) := by
  refine MetFree.of_bodySF (plainFor_of_name pn_1) hisR ?_
  intro p e s m args below meth c s₁ Bd hml0 hP hK
  obtain ⟨rfl, hZ, hh⟩ := hP
  have hx := Bd.exec
  have hby := Bd.bytes
  have hml : c.maxLocals = 2 := hml0
  have hown : s.vm.findClass "com/example/nearstable/nearstable/maximal/Players" = some m.cls := findClass_of_methodNamed Bd.named
  have hnm := (name_of_methodNamed Bd.named Bd.method).1
  have hlk : meth.locks = false := Bd.notSynchronized
  have X0 : Stand p l e ({ frames := 1, cells := 7, slots := 104, locals := 12 } : Room) s m #[(.ref a), (.int (7 : Int32))] below meth c s₁ [] 0 0 := Stand.of_body Bd
  have e0 : s₁.heap = h0 := by rw [← hh, Bd.state]; rfl
  have Nf := Fr.nil n0
  refine (?_ : Win p.tables e below (PostQ s (Q1 Z a h0 n0) ({ frames := 1, cells := 7, slots := 104, locals := 12 } : Room).cells ({ frames := 1, cells := 7, slots := 104, locals := 12 } : Room).slots) (s₁.setTop (entryFrame m #[(.ref a), (.int (7 : Int32))] 2)))
  rw [ef_1]
  have Kp : Keep h0 h0 [a] := Keep.refl h0 _
  have lt_a : a < h0.size := E_a.lt
  show Win p.tables e below _ (s₁.setTop (mkF m 0 #[.val (.ref a), .val (.int (7 : Int32))] []))
  refine s_aloadN (pc' := 1) X0.here hx (hb hby d1_0) rfl rfl rfl ?_
  obtain ⟨T_1, X_1, e_1, st_1⟩ := initO X0 hx hZ hown (hw _ (List.mem_of_getElem? (i := 7) rfl)) (hw _ (List.mem_of_getElem? (i := 8) rfl)) (hw _ (List.mem_of_getElem? (i := 9) rfl)) e0 (g := (mkF m 1 #[.val (.ref a), .val (.int (7 : Int32))] [(.ref a)])) rfl (by rw [hml]; rfl) rfl (hb hby d1_1) (by decide) (W := 0) (by show 2 * 0 + _ ≤ _; exact Nat.le_of_eq rfl) (by decide)
  refine Win.go st_1 ?_
  clear st_1 X0 e0
  show Win p.tables e below _ (T_1.setTop (mkF m 4 #[.val (.ref a), .val (.int (7 : Int32))] []))
  refine s_aloadN (pc' := 5) X_1.here hx (hb hby d1_4) rfl rfl rfl ?_
  refine s_bipush (pc' := 7) (z := (16 : Int32)) X_1.here hx (hb hby d1_5) rfl rfl ?_
  obtain ⟨T_2, h_2, k_2, X_2, e_2, Ex_2, A_2, EA_2, st_2⟩ := newPE X_1 hx hZ (hw _ (List.mem_of_getElem? (i := 10) rfl)) e_1 (g := (mkF m 7 #[.val (.ref a), .val (.int (7 : Int32))] [(.int (16 : Int32)), (.ref a)])) rfl (hb hby d1_7) rfl (by decide) (cap := 16) (by decide) (by decide) (by decide) (by decide) (ad := "[I") (by decide)
  obtain ⟨b_2, g_2⟩ : ∃ z, z = h0.size := ⟨_, rfl⟩
  have ne_a_b_2 : a ≠ b_2 := Nat.ne_of_lt (Nat.lt_of_lt_of_le lt_a (Nat.le_of_eq g_2.symm))
  have g_b_2 : n0 ≤ b_2 := Nat.le_trans Zs (Nat.le_of_eq g_2.symm)
  have sz_b_2 : h0.size ≤ b_2 := Nat.le_trans Kp.1 (Nat.le_of_eq g_2.symm)
  rw [← g_2] at A_2 EA_2 st_2
  replace E_a := E_a.ext Ex_2
  replace F_player_a := F_player_a.ext Ex_2
  replace F_first_a := F_first_a.ext Ex_2
  replace F_degree_a := F_degree_a.ext Ex_2
  replace F_edges_a := F_edges_a.ext Ex_2
  replace F_partner_a := F_partner_a.ext Ex_2
  replace F_edgeLeft_a := F_edgeLeft_a.ext Ex_2
  replace F_slotPlus1_a := F_slotPlus1_a.ext Ex_2
  replace F_slots_a := F_slots_a.ext Ex_2
  replace F_edgeCount_a := F_edgeCount_a.ext Ex_2
  replace lt_a := Nat.lt_of_lt_of_le lt_a Ex_2.1
  replace Zs := Nat.le_trans Zs Ex_2.1
  replace Kp := Kp.ext Ex_2
  have A_b_2 : AF Z h_2 b_2 .int 16 (fun _ => 0) := AF.zero (Arv.new A_2 (by decide)) (by decide)
  have lt_b_2 := A_b_2.lt
  have E_b_2 := EA_2
  refine Win.go st_2 ?_
  clear st_2 Ex_2 A_2 EA_2 g_2 X_1 e_1
  show Win p.tables e below _ (T_2.setTop (mkF m 9 #[.val (.ref a), .val (.int (7 : Int32))] [(.ref b_2), (.ref a)]))
  obtain ⟨T_3, h_3, X_3, e_3, W_3, st_3⟩ := putF X_2 hx hZ hown (host := "") (Or.inl (hw _ (List.mem_of_getElem? (i := 11) rfl))) Via.refl e_2 F_player_a E_a (Or.inl (hw _ (List.mem_of_getElem? (i := 12) rfl))) (hw _ (List.mem_of_getElem? (i := 2) rfl)) (ty := (.array .int)) (by decide) rfl rfl (g := (mkF m 9 #[.val (.ref a), .val (.int (7 : Int32))] [(.ref b_2), (.ref a)])) rfl rfl (hb hby d1_9)
  replace E_a := E_a.wr W_3
  replace F_first_a := F_first_a.other W_3 (Or.inr (slot_ne (Or.inl (hw _ (List.mem_of_getElem? (i := 14) rfl))) (Or.inl (hw _ (List.mem_of_getElem? (i := 12) rfl))) (by decide) (t := (.array .int)) (t' := (.array .int)) (by decide) (by decide)))
  replace F_degree_a := F_degree_a.other W_3 (Or.inr (slot_ne (Or.inl (hw _ (List.mem_of_getElem? (i := 16) rfl))) (Or.inl (hw _ (List.mem_of_getElem? (i := 12) rfl))) (by decide) (t := (.array .int)) (t' := (.array .int)) (by decide) (by decide)))
  replace F_edges_a := F_edges_a.other W_3 (Or.inr (slot_ne (Or.inl (hw _ (List.mem_of_getElem? (i := 18) rfl))) (Or.inl (hw _ (List.mem_of_getElem? (i := 12) rfl))) (by decide) (t := (.array .int)) (t' := (.array .int)) (by decide) (by decide)))
  replace F_partner_a := F_partner_a.other W_3 (Or.inr (slot_ne (Or.inl (hw _ (List.mem_of_getElem? (i := 20) rfl))) (Or.inl (hw _ (List.mem_of_getElem? (i := 12) rfl))) (by decide) (t := (.array .int)) (t' := (.array .int)) (by decide) (by decide)))
  replace F_edgeLeft_a := F_edgeLeft_a.other W_3 (Or.inr (slot_ne (Or.inl (hw _ (List.mem_of_getElem? (i := 23) rfl))) (Or.inl (hw _ (List.mem_of_getElem? (i := 12) rfl))) (by decide) (t := (.array .boolean)) (t' := (.array .int)) (by decide) (by decide)))
  replace F_slotPlus1_a := F_slotPlus1_a.other W_3 (Or.inr (slot_ne (Or.inr (hw _ (List.mem_of_getElem? (i := 25) rfl))) (Or.inl (hw _ (List.mem_of_getElem? (i := 12) rfl))) (by decide) (t := (.array .int)) (t' := (.array .int)) (by decide) (by decide)))
  replace F_slots_a := F_slots_a.other W_3 (Or.inr (slot_ne (Or.inl (hw _ (List.mem_of_getElem? (i := 32) rfl))) (Or.inl (hw _ (List.mem_of_getElem? (i := 12) rfl))) (by decide) (t := .int) (t' := (.array .int)) (by decide) (by decide)))
  replace F_edgeCount_a := F_edgeCount_a.other W_3 (Or.inr (slot_ne (Or.inl (hw _ (List.mem_of_getElem? (i := 34) rfl))) (Or.inl (hw _ (List.mem_of_getElem? (i := 12) rfl))) (by decide) (t := .int) (t' := (.array .int)) (by decide) (by decide)))
  replace A_b_2 := A_b_2.other W_3 (Ne.symm ne_a_b_2)
  replace E_b_2 := E_b_2.wr W_3
  replace lt_a := Nat.lt_of_lt_of_le lt_a (Keep.of_wr W_3).1
  replace lt_b_2 := Nat.lt_of_lt_of_le lt_b_2 (Keep.of_wr W_3).1
  replace Zs := Nat.le_trans Zs (Keep.of_wr W_3).1
  replace Kp := Kp.wr W_3 (Or.inl (by simp))
  replace F_player_a := F_player_a.same W_3
  replace Nf := Fr.snoc X_3 Nf g_a
  refine Win.go st_3 ?_
  clear st_3 W_3 X_2 e_2
  show Win p.tables e below _ (T_3.setTop (mkF m 12 #[.val (.ref a), .val (.int (7 : Int32))] []))
  refine s_aloadN (pc' := 13) X_3.here hx (hb hby d1_12) rfl rfl rfl ?_
  refine s_bipush (pc' := 15) (z := (16 : Int32)) X_3.here hx (hb hby d1_13) rfl rfl ?_
  obtain ⟨T_4, h_4, k_4, X_4, e_4, Ex_4, A_4, EA_4, st_4⟩ := newPE X_3 hx hZ (hw _ (List.mem_of_getElem? (i := 10) rfl)) e_3 (g := (mkF m 15 #[.val (.ref a), .val (.int (7 : Int32))] [(.int (16 : Int32)), (.ref a)])) rfl (hb hby d1_15) rfl (by decide) (cap := 16) (by decide) (by decide) (by decide) (by decide) (ad := "[I") (by decide)
  obtain ⟨b_4, g_4⟩ : ∃ z, z = h_3.size := ⟨_, rfl⟩
  have ne_a_b_4 : a ≠ b_4 := Nat.ne_of_lt (Nat.lt_of_lt_of_le lt_a (Nat.le_of_eq g_4.symm))
  have ne_b_2_b_4 : b_2 ≠ b_4 := Nat.ne_of_lt (Nat.lt_of_lt_of_le lt_b_2 (Nat.le_of_eq g_4.symm))
  have g_b_4 : n0 ≤ b_4 := Nat.le_trans Zs (Nat.le_of_eq g_4.symm)
  have sz_b_4 : h0.size ≤ b_4 := Nat.le_trans Kp.1 (Nat.le_of_eq g_4.symm)
  rw [← g_4] at A_4 EA_4 st_4
  replace E_a := E_a.ext Ex_4
  replace F_player_a := F_player_a.ext Ex_4
  replace F_first_a := F_first_a.ext Ex_4
  replace F_degree_a := F_degree_a.ext Ex_4
  replace F_edges_a := F_edges_a.ext Ex_4
  replace F_partner_a := F_partner_a.ext Ex_4
  replace F_edgeLeft_a := F_edgeLeft_a.ext Ex_4
  replace F_slotPlus1_a := F_slotPlus1_a.ext Ex_4
  replace F_slots_a := F_slots_a.ext Ex_4
  replace F_edgeCount_a := F_edgeCount_a.ext Ex_4
  replace A_b_2 := A_b_2.ext Ex_4
  replace E_b_2 := E_b_2.ext Ex_4
  replace lt_a := Nat.lt_of_lt_of_le lt_a Ex_4.1
  replace lt_b_2 := Nat.lt_of_lt_of_le lt_b_2 Ex_4.1
  replace Zs := Nat.le_trans Zs Ex_4.1
  replace Kp := Kp.ext Ex_4
  have A_b_4 : AF Z h_4 b_4 .int 16 (fun _ => 0) := AF.zero (Arv.new A_4 (by decide)) (by decide)
  have lt_b_4 := A_b_4.lt
  have E_b_4 := EA_4
  refine Win.go st_4 ?_
  clear st_4 Ex_4 A_4 EA_4 g_4 X_3 e_3
  show Win p.tables e below _ (T_4.setTop (mkF m 17 #[.val (.ref a), .val (.int (7 : Int32))] [(.ref b_4), (.ref a)]))
  obtain ⟨T_5, h_5, X_5, e_5, W_5, st_5⟩ := putF X_4 hx hZ hown (host := "") (Or.inl (hw _ (List.mem_of_getElem? (i := 13) rfl))) Via.refl e_4 F_first_a E_a (Or.inl (hw _ (List.mem_of_getElem? (i := 14) rfl))) (hw _ (List.mem_of_getElem? (i := 2) rfl)) (ty := (.array .int)) (by decide) rfl rfl (g := (mkF m 17 #[.val (.ref a), .val (.int (7 : Int32))] [(.ref b_4), (.ref a)])) rfl rfl (hb hby d1_17)
  replace E_a := E_a.wr W_5
  replace F_player_a := F_player_a.other W_5 (Or.inr (slot_ne (Or.inl (hw _ (List.mem_of_getElem? (i := 12) rfl))) (Or.inl (hw _ (List.mem_of_getElem? (i := 14) rfl))) (by decide) (t := (.array .int)) (t' := (.array .int)) (by decide) (by decide)))
  replace F_degree_a := F_degree_a.other W_5 (Or.inr (slot_ne (Or.inl (hw _ (List.mem_of_getElem? (i := 16) rfl))) (Or.inl (hw _ (List.mem_of_getElem? (i := 14) rfl))) (by decide) (t := (.array .int)) (t' := (.array .int)) (by decide) (by decide)))
  replace F_edges_a := F_edges_a.other W_5 (Or.inr (slot_ne (Or.inl (hw _ (List.mem_of_getElem? (i := 18) rfl))) (Or.inl (hw _ (List.mem_of_getElem? (i := 14) rfl))) (by decide) (t := (.array .int)) (t' := (.array .int)) (by decide) (by decide)))
  replace F_partner_a := F_partner_a.other W_5 (Or.inr (slot_ne (Or.inl (hw _ (List.mem_of_getElem? (i := 20) rfl))) (Or.inl (hw _ (List.mem_of_getElem? (i := 14) rfl))) (by decide) (t := (.array .int)) (t' := (.array .int)) (by decide) (by decide)))
  replace F_edgeLeft_a := F_edgeLeft_a.other W_5 (Or.inr (slot_ne (Or.inl (hw _ (List.mem_of_getElem? (i := 23) rfl))) (Or.inl (hw _ (List.mem_of_getElem? (i := 14) rfl))) (by decide) (t := (.array .boolean)) (t' := (.array .int)) (by decide) (by decide)))
  replace F_slotPlus1_a := F_slotPlus1_a.other W_5 (Or.inr (slot_ne (Or.inr (hw _ (List.mem_of_getElem? (i := 25) rfl))) (Or.inl (hw _ (List.mem_of_getElem? (i := 14) rfl))) (by decide) (t := (.array .int)) (t' := (.array .int)) (by decide) (by decide)))
  replace F_slots_a := F_slots_a.other W_5 (Or.inr (slot_ne (Or.inl (hw _ (List.mem_of_getElem? (i := 32) rfl))) (Or.inl (hw _ (List.mem_of_getElem? (i := 14) rfl))) (by decide) (t := .int) (t' := (.array .int)) (by decide) (by decide)))
  replace F_edgeCount_a := F_edgeCount_a.other W_5 (Or.inr (slot_ne (Or.inl (hw _ (List.mem_of_getElem? (i := 34) rfl))) (Or.inl (hw _ (List.mem_of_getElem? (i := 14) rfl))) (by decide) (t := .int) (t' := (.array .int)) (by decide) (by decide)))
  replace A_b_2 := A_b_2.other W_5 (Ne.symm ne_a_b_2)
  replace E_b_2 := E_b_2.wr W_5
  replace A_b_4 := A_b_4.other W_5 (Ne.symm ne_a_b_4)
  replace E_b_4 := E_b_4.wr W_5
  replace lt_a := Nat.lt_of_lt_of_le lt_a (Keep.of_wr W_5).1
  replace lt_b_2 := Nat.lt_of_lt_of_le lt_b_2 (Keep.of_wr W_5).1
  replace lt_b_4 := Nat.lt_of_lt_of_le lt_b_4 (Keep.of_wr W_5).1
  replace Zs := Nat.le_trans Zs (Keep.of_wr W_5).1
  replace Kp := Kp.wr W_5 (Or.inl (by simp))
  replace F_first_a := F_first_a.same W_5
  replace Nf := Fr.snoc X_5 Nf g_a
  refine Win.go st_5 ?_
  clear st_5 W_5 X_4 e_4
  show Win p.tables e below _ (T_5.setTop (mkF m 20 #[.val (.ref a), .val (.int (7 : Int32))] []))
  refine s_aloadN (pc' := 21) X_5.here hx (hb hby d1_20) rfl rfl rfl ?_
  refine s_bipush (pc' := 23) (z := (16 : Int32)) X_5.here hx (hb hby d1_21) rfl rfl ?_
  obtain ⟨T_6, h_6, k_6, X_6, e_6, Ex_6, A_6, EA_6, st_6⟩ := newPE X_5 hx hZ (hw _ (List.mem_of_getElem? (i := 10) rfl)) e_5 (g := (mkF m 23 #[.val (.ref a), .val (.int (7 : Int32))] [(.int (16 : Int32)), (.ref a)])) rfl (hb hby d1_23) rfl (by decide) (cap := 16) (by decide) (by decide) (by decide) (by decide) (ad := "[I") (by decide)
  obtain ⟨b_6, g_6⟩ : ∃ z, z = h_5.size := ⟨_, rfl⟩
  have ne_a_b_6 : a ≠ b_6 := Nat.ne_of_lt (Nat.lt_of_lt_of_le lt_a (Nat.le_of_eq g_6.symm))
  have ne_b_2_b_6 : b_2 ≠ b_6 := Nat.ne_of_lt (Nat.lt_of_lt_of_le lt_b_2 (Nat.le_of_eq g_6.symm))
  have ne_b_4_b_6 : b_4 ≠ b_6 := Nat.ne_of_lt (Nat.lt_of_lt_of_le lt_b_4 (Nat.le_of_eq g_6.symm))
  have g_b_6 : n0 ≤ b_6 := Nat.le_trans Zs (Nat.le_of_eq g_6.symm)
  have sz_b_6 : h0.size ≤ b_6 := Nat.le_trans Kp.1 (Nat.le_of_eq g_6.symm)
  rw [← g_6] at A_6 EA_6 st_6
  replace E_a := E_a.ext Ex_6
  replace F_player_a := F_player_a.ext Ex_6
  replace F_first_a := F_first_a.ext Ex_6
  replace F_degree_a := F_degree_a.ext Ex_6
  replace F_edges_a := F_edges_a.ext Ex_6
  replace F_partner_a := F_partner_a.ext Ex_6
  replace F_edgeLeft_a := F_edgeLeft_a.ext Ex_6
  replace F_slotPlus1_a := F_slotPlus1_a.ext Ex_6
  replace F_slots_a := F_slots_a.ext Ex_6
  replace F_edgeCount_a := F_edgeCount_a.ext Ex_6
  replace A_b_2 := A_b_2.ext Ex_6
  replace E_b_2 := E_b_2.ext Ex_6
  replace A_b_4 := A_b_4.ext Ex_6
  replace E_b_4 := E_b_4.ext Ex_6
  replace lt_a := Nat.lt_of_lt_of_le lt_a Ex_6.1
  replace lt_b_2 := Nat.lt_of_lt_of_le lt_b_2 Ex_6.1
  replace lt_b_4 := Nat.lt_of_lt_of_le lt_b_4 Ex_6.1
  replace Zs := Nat.le_trans Zs Ex_6.1
  replace Kp := Kp.ext Ex_6
  have A_b_6 : AF Z h_6 b_6 .int 16 (fun _ => 0) := AF.zero (Arv.new A_6 (by decide)) (by decide)
  have lt_b_6 := A_b_6.lt
  have E_b_6 := EA_6
  refine Win.go st_6 ?_
  clear st_6 Ex_6 A_6 EA_6 g_6 X_5 e_5
  show Win p.tables e below _ (T_6.setTop (mkF m 25 #[.val (.ref a), .val (.int (7 : Int32))] [(.ref b_6), (.ref a)]))
  obtain ⟨T_7, h_7, X_7, e_7, W_7, st_7⟩ := putF X_6 hx hZ hown (host := "") (Or.inl (hw _ (List.mem_of_getElem? (i := 15) rfl))) Via.refl e_6 F_degree_a E_a (Or.inl (hw _ (List.mem_of_getElem? (i := 16) rfl))) (hw _ (List.mem_of_getElem? (i := 2) rfl)) (ty := (.array .int)) (by decide) rfl rfl (g := (mkF m 25 #[.val (.ref a), .val (.int (7 : Int32))] [(.ref b_6), (.ref a)])) rfl rfl (hb hby d1_25)
  replace E_a := E_a.wr W_7
  replace F_player_a := F_player_a.other W_7 (Or.inr (slot_ne (Or.inl (hw _ (List.mem_of_getElem? (i := 12) rfl))) (Or.inl (hw _ (List.mem_of_getElem? (i := 16) rfl))) (by decide) (t := (.array .int)) (t' := (.array .int)) (by decide) (by decide)))
  replace F_first_a := F_first_a.other W_7 (Or.inr (slot_ne (Or.inl (hw _ (List.mem_of_getElem? (i := 14) rfl))) (Or.inl (hw _ (List.mem_of_getElem? (i := 16) rfl))) (by decide) (t := (.array .int)) (t' := (.array .int)) (by decide) (by decide)))
  replace F_edges_a := F_edges_a.other W_7 (Or.inr (slot_ne (Or.inl (hw _ (List.mem_of_getElem? (i := 18) rfl))) (Or.inl (hw _ (List.mem_of_getElem? (i := 16) rfl))) (by decide) (t := (.array .int)) (t' := (.array .int)) (by decide) (by decide)))
  replace F_partner_a := F_partner_a.other W_7 (Or.inr (slot_ne (Or.inl (hw _ (List.mem_of_getElem? (i := 20) rfl))) (Or.inl (hw _ (List.mem_of_getElem? (i := 16) rfl))) (by decide) (t := (.array .int)) (t' := (.array .int)) (by decide) (by decide)))
  replace F_edgeLeft_a := F_edgeLeft_a.other W_7 (Or.inr (slot_ne (Or.inl (hw _ (List.mem_of_getElem? (i := 23) rfl))) (Or.inl (hw _ (List.mem_of_getElem? (i := 16) rfl))) (by decide) (t := (.array .boolean)) (t' := (.array .int)) (by decide) (by decide)))
  replace F_slotPlus1_a := F_slotPlus1_a.other W_7 (Or.inr (slot_ne (Or.inr (hw _ (List.mem_of_getElem? (i := 25) rfl))) (Or.inl (hw _ (List.mem_of_getElem? (i := 16) rfl))) (by decide) (t := (.array .int)) (t' := (.array .int)) (by decide) (by decide)))
  replace F_slots_a := F_slots_a.other W_7 (Or.inr (slot_ne (Or.inl (hw _ (List.mem_of_getElem? (i := 32) rfl))) (Or.inl (hw _ (List.mem_of_getElem? (i := 16) rfl))) (by decide) (t := .int) (t' := (.array .int)) (by decide) (by decide)))
  replace F_edgeCount_a := F_edgeCount_a.other W_7 (Or.inr (slot_ne (Or.inl (hw _ (List.mem_of_getElem? (i := 34) rfl))) (Or.inl (hw _ (List.mem_of_getElem? (i := 16) rfl))) (by decide) (t := .int) (t' := (.array .int)) (by decide) (by decide)))
  replace A_b_2 := A_b_2.other W_7 (Ne.symm ne_a_b_2)
  replace E_b_2 := E_b_2.wr W_7
  replace A_b_4 := A_b_4.other W_7 (Ne.symm ne_a_b_4)
  replace E_b_4 := E_b_4.wr W_7
  replace A_b_6 := A_b_6.other W_7 (Ne.symm ne_a_b_6)
  replace E_b_6 := E_b_6.wr W_7
  replace lt_a := Nat.lt_of_lt_of_le lt_a (Keep.of_wr W_7).1
  replace lt_b_2 := Nat.lt_of_lt_of_le lt_b_2 (Keep.of_wr W_7).1
  replace lt_b_4 := Nat.lt_of_lt_of_le lt_b_4 (Keep.of_wr W_7).1
  replace lt_b_6 := Nat.lt_of_lt_of_le lt_b_6 (Keep.of_wr W_7).1
  replace Zs := Nat.le_trans Zs (Keep.of_wr W_7).1
  replace Kp := Kp.wr W_7 (Or.inl (by simp))
  replace F_degree_a := F_degree_a.same W_7
  replace Nf := Fr.snoc X_7 Nf g_a
  refine Win.go st_7 ?_
  clear st_7 W_7 X_6 e_6
  show Win p.tables e below _ (T_7.setTop (mkF m 28 #[.val (.ref a), .val (.int (7 : Int32))] []))
  refine s_aloadN (pc' := 29) X_7.here hx (hb hby d1_28) rfl rfl rfl ?_
  refine s_bipush (pc' := 31) (z := (16 : Int32)) X_7.here hx (hb hby d1_29) rfl rfl ?_
  obtain ⟨T_8, h_8, k_8, X_8, e_8, Ex_8, A_8, EA_8, st_8⟩ := newPE X_7 hx hZ (hw _ (List.mem_of_getElem? (i := 10) rfl)) e_7 (g := (mkF m 31 #[.val (.ref a), .val (.int (7 : Int32))] [(.int (16 : Int32)), (.ref a)])) rfl (hb hby d1_31) rfl (by decide) (cap := 16) (by decide) (by decide) (by decide) (by decide) (ad := "[I") (by decide)
  obtain ⟨b_8, g_8⟩ : ∃ z, z = h_7.size := ⟨_, rfl⟩
  have ne_a_b_8 : a ≠ b_8 := Nat.ne_of_lt (Nat.lt_of_lt_of_le lt_a (Nat.le_of_eq g_8.symm))
  have ne_b_2_b_8 : b_2 ≠ b_8 := Nat.ne_of_lt (Nat.lt_of_lt_of_le lt_b_2 (Nat.le_of_eq g_8.symm))
  have ne_b_4_b_8 : b_4 ≠ b_8 := Nat.ne_of_lt (Nat.lt_of_lt_of_le lt_b_4 (Nat.le_of_eq g_8.symm))
  have ne_b_6_b_8 : b_6 ≠ b_8 := Nat.ne_of_lt (Nat.lt_of_lt_of_le lt_b_6 (Nat.le_of_eq g_8.symm))
  have g_b_8 : n0 ≤ b_8 := Nat.le_trans Zs (Nat.le_of_eq g_8.symm)
  have sz_b_8 : h0.size ≤ b_8 := Nat.le_trans Kp.1 (Nat.le_of_eq g_8.symm)
  rw [← g_8] at A_8 EA_8 st_8
  replace E_a := E_a.ext Ex_8
  replace F_player_a := F_player_a.ext Ex_8
  replace F_first_a := F_first_a.ext Ex_8
  replace F_degree_a := F_degree_a.ext Ex_8
  replace F_edges_a := F_edges_a.ext Ex_8
  replace F_partner_a := F_partner_a.ext Ex_8
  replace F_edgeLeft_a := F_edgeLeft_a.ext Ex_8
  replace F_slotPlus1_a := F_slotPlus1_a.ext Ex_8
  replace F_slots_a := F_slots_a.ext Ex_8
  replace F_edgeCount_a := F_edgeCount_a.ext Ex_8
  replace A_b_2 := A_b_2.ext Ex_8
  replace E_b_2 := E_b_2.ext Ex_8
  replace A_b_4 := A_b_4.ext Ex_8
  replace E_b_4 := E_b_4.ext Ex_8
  replace A_b_6 := A_b_6.ext Ex_8
  replace E_b_6 := E_b_6.ext Ex_8
  replace lt_a := Nat.lt_of_lt_of_le lt_a Ex_8.1
  replace lt_b_2 := Nat.lt_of_lt_of_le lt_b_2 Ex_8.1
  replace lt_b_4 := Nat.lt_of_lt_of_le lt_b_4 Ex_8.1
  replace lt_b_6 := Nat.lt_of_lt_of_le lt_b_6 Ex_8.1
  replace Zs := Nat.le_trans Zs Ex_8.1
  replace Kp := Kp.ext Ex_8
  have A_b_8 : AF Z h_8 b_8 .int 16 (fun _ => 0) := AF.zero (Arv.new A_8 (by decide)) (by decide)
  have lt_b_8 := A_b_8.lt
  have E_b_8 := EA_8
  refine Win.go st_8 ?_
  clear st_8 Ex_8 A_8 EA_8 g_8 X_7 e_7
  show Win p.tables e below _ (T_8.setTop (mkF m 33 #[.val (.ref a), .val (.int (7 : Int32))] [(.ref b_8), (.ref a)]))
  obtain ⟨T_9, h_9, X_9, e_9, W_9, st_9⟩ := putF X_8 hx hZ hown (host := "") (Or.inl (hw _ (List.mem_of_getElem? (i := 17) rfl))) Via.refl e_8 F_edges_a E_a (Or.inl (hw _ (List.mem_of_getElem? (i := 18) rfl))) (hw _ (List.mem_of_getElem? (i := 2) rfl)) (ty := (.array .int)) (by decide) rfl rfl (g := (mkF m 33 #[.val (.ref a), .val (.int (7 : Int32))] [(.ref b_8), (.ref a)])) rfl rfl (hb hby d1_33)
  replace E_a := E_a.wr W_9
  replace F_player_a := F_player_a.other W_9 (Or.inr (slot_ne (Or.inl (hw _ (List.mem_of_getElem? (i := 12) rfl))) (Or.inl (hw _ (List.mem_of_getElem? (i := 18) rfl))) (by decide) (t := (.array .int)) (t' := (.array .int)) (by decide) (by decide)))
  replace F_first_a := F_first_a.other W_9 (Or.inr (slot_ne (Or.inl (hw _ (List.mem_of_getElem? (i := 14) rfl))) (Or.inl (hw _ (List.mem_of_getElem? (i := 18) rfl))) (by decide) (t := (.array .int)) (t' := (.array .int)) (by decide) (by decide)))
  replace F_degree_a := F_degree_a.other W_9 (Or.inr (slot_ne (Or.inl (hw _ (List.mem_of_getElem? (i := 16) rfl))) (Or.inl (hw _ (List.mem_of_getElem? (i := 18) rfl))) (by decide) (t := (.array .int)) (t' := (.array .int)) (by decide) (by decide)))
  replace F_partner_a := F_partner_a.other W_9 (Or.inr (slot_ne (Or.inl (hw _ (List.mem_of_getElem? (i := 20) rfl))) (Or.inl (hw _ (List.mem_of_getElem? (i := 18) rfl))) (by decide) (t := (.array .int)) (t' := (.array .int)) (by decide) (by decide)))
  replace F_edgeLeft_a := F_edgeLeft_a.other W_9 (Or.inr (slot_ne (Or.inl (hw _ (List.mem_of_getElem? (i := 23) rfl))) (Or.inl (hw _ (List.mem_of_getElem? (i := 18) rfl))) (by decide) (t := (.array .boolean)) (t' := (.array .int)) (by decide) (by decide)))
  replace F_slotPlus1_a := F_slotPlus1_a.other W_9 (Or.inr (slot_ne (Or.inr (hw _ (List.mem_of_getElem? (i := 25) rfl))) (Or.inl (hw _ (List.mem_of_getElem? (i := 18) rfl))) (by decide) (t := (.array .int)) (t' := (.array .int)) (by decide) (by decide)))
  replace F_slots_a := F_slots_a.other W_9 (Or.inr (slot_ne (Or.inl (hw _ (List.mem_of_getElem? (i := 32) rfl))) (Or.inl (hw _ (List.mem_of_getElem? (i := 18) rfl))) (by decide) (t := .int) (t' := (.array .int)) (by decide) (by decide)))
  replace F_edgeCount_a := F_edgeCount_a.other W_9 (Or.inr (slot_ne (Or.inl (hw _ (List.mem_of_getElem? (i := 34) rfl))) (Or.inl (hw _ (List.mem_of_getElem? (i := 18) rfl))) (by decide) (t := .int) (t' := (.array .int)) (by decide) (by decide)))
  replace A_b_2 := A_b_2.other W_9 (Ne.symm ne_a_b_2)
  replace E_b_2 := E_b_2.wr W_9
  replace A_b_4 := A_b_4.other W_9 (Ne.symm ne_a_b_4)
  replace E_b_4 := E_b_4.wr W_9
  replace A_b_6 := A_b_6.other W_9 (Ne.symm ne_a_b_6)
  replace E_b_6 := E_b_6.wr W_9
  replace A_b_8 := A_b_8.other W_9 (Ne.symm ne_a_b_8)
  replace E_b_8 := E_b_8.wr W_9
  replace lt_a := Nat.lt_of_lt_of_le lt_a (Keep.of_wr W_9).1
  replace lt_b_2 := Nat.lt_of_lt_of_le lt_b_2 (Keep.of_wr W_9).1
  replace lt_b_4 := Nat.lt_of_lt_of_le lt_b_4 (Keep.of_wr W_9).1
  replace lt_b_6 := Nat.lt_of_lt_of_le lt_b_6 (Keep.of_wr W_9).1
  replace lt_b_8 := Nat.lt_of_lt_of_le lt_b_8 (Keep.of_wr W_9).1
  replace Zs := Nat.le_trans Zs (Keep.of_wr W_9).1
  replace Kp := Kp.wr W_9 (Or.inl (by simp))
  replace F_edges_a := F_edges_a.same W_9
  replace Nf := Fr.snoc X_9 Nf g_a
  refine Win.go st_9 ?_
  clear st_9 W_9 X_8 e_8
  show Win p.tables e below _ (T_9.setTop (mkF m 36 #[.val (.ref a), .val (.int (7 : Int32))] []))
  refine s_aloadN (pc' := 37) X_9.here hx (hb hby d1_36) rfl rfl rfl ?_
  refine s_bipush (pc' := 39) (z := (16 : Int32)) X_9.here hx (hb hby d1_37) rfl rfl ?_
  obtain ⟨T_10, h_10, k_10, X_10, e_10, Ex_10, A_10, EA_10, st_10⟩ := newPE X_9 hx hZ (hw _ (List.mem_of_getElem? (i := 10) rfl)) e_9 (g := (mkF m 39 #[.val (.ref a), .val (.int (7 : Int32))] [(.int (16 : Int32)), (.ref a)])) rfl (hb hby d1_39) rfl (by decide) (cap := 16) (by decide) (by decide) (by decide) (by decide) (ad := "[I") (by decide)
  obtain ⟨b_10, g_10⟩ : ∃ z, z = h_9.size := ⟨_, rfl⟩
  have ne_a_b_10 : a ≠ b_10 := Nat.ne_of_lt (Nat.lt_of_lt_of_le lt_a (Nat.le_of_eq g_10.symm))
  have ne_b_2_b_10 : b_2 ≠ b_10 := Nat.ne_of_lt (Nat.lt_of_lt_of_le lt_b_2 (Nat.le_of_eq g_10.symm))
  have ne_b_4_b_10 : b_4 ≠ b_10 := Nat.ne_of_lt (Nat.lt_of_lt_of_le lt_b_4 (Nat.le_of_eq g_10.symm))
  have ne_b_6_b_10 : b_6 ≠ b_10 := Nat.ne_of_lt (Nat.lt_of_lt_of_le lt_b_6 (Nat.le_of_eq g_10.symm))
  have ne_b_8_b_10 : b_8 ≠ b_10 := Nat.ne_of_lt (Nat.lt_of_lt_of_le lt_b_8 (Nat.le_of_eq g_10.symm))
  have g_b_10 : n0 ≤ b_10 := Nat.le_trans Zs (Nat.le_of_eq g_10.symm)
  have sz_b_10 : h0.size ≤ b_10 := Nat.le_trans Kp.1 (Nat.le_of_eq g_10.symm)
  rw [← g_10] at A_10 EA_10 st_10
  replace E_a := E_a.ext Ex_10
  replace F_player_a := F_player_a.ext Ex_10
  replace F_first_a := F_first_a.ext Ex_10
  replace F_degree_a := F_degree_a.ext Ex_10
  replace F_edges_a := F_edges_a.ext Ex_10
  replace F_partner_a := F_partner_a.ext Ex_10
  replace F_edgeLeft_a := F_edgeLeft_a.ext Ex_10
  replace F_slotPlus1_a := F_slotPlus1_a.ext Ex_10
  replace F_slots_a := F_slots_a.ext Ex_10
  replace F_edgeCount_a := F_edgeCount_a.ext Ex_10
  replace A_b_2 := A_b_2.ext Ex_10
  replace E_b_2 := E_b_2.ext Ex_10
  replace A_b_4 := A_b_4.ext Ex_10
  replace E_b_4 := E_b_4.ext Ex_10
  replace A_b_6 := A_b_6.ext Ex_10
  replace E_b_6 := E_b_6.ext Ex_10
  replace A_b_8 := A_b_8.ext Ex_10
  replace E_b_8 := E_b_8.ext Ex_10
  replace lt_a := Nat.lt_of_lt_of_le lt_a Ex_10.1
  replace lt_b_2 := Nat.lt_of_lt_of_le lt_b_2 Ex_10.1
  replace lt_b_4 := Nat.lt_of_lt_of_le lt_b_4 Ex_10.1
  replace lt_b_6 := Nat.lt_of_lt_of_le lt_b_6 Ex_10.1
  replace lt_b_8 := Nat.lt_of_lt_of_le lt_b_8 Ex_10.1
  replace Zs := Nat.le_trans Zs Ex_10.1
  replace Kp := Kp.ext Ex_10
  have A_b_10 : AF Z h_10 b_10 .int 16 (fun _ => 0) := AF.zero (Arv.new A_10 (by decide)) (by decide)
  have lt_b_10 := A_b_10.lt
  have E_b_10 := EA_10
  refine Win.go st_10 ?_
  clear st_10 Ex_10 A_10 EA_10 g_10 X_9 e_9
  show Win p.tables e below _ (T_10.setTop (mkF m 41 #[.val (.ref a), .val (.int (7 : Int32))] [(.ref b_10), (.ref a)]))
  obtain ⟨T_11, h_11, X_11, e_11, W_11, st_11⟩ := putF X_10 hx hZ hown (host := "") (Or.inl (hw _ (List.mem_of_getElem? (i := 19) rfl))) Via.refl e_10 F_partner_a E_a (Or.inl (hw _ (List.mem_of_getElem? (i := 20) rfl))) (hw _ (List.mem_of_getElem? (i := 2) rfl)) (ty := (.array .int)) (by decide) rfl rfl (g := (mkF m 41 #[.val (.ref a), .val (.int (7 : Int32))] [(.ref b_10), (.ref a)])) rfl rfl (hb hby d1_41)
  replace E_a := E_a.wr W_11
  replace F_player_a := F_player_a.other W_11 (Or.inr (slot_ne (Or.inl (hw _ (List.mem_of_getElem? (i := 12) rfl))) (Or.inl (hw _ (List.mem_of_getElem? (i := 20) rfl))) (by decide) (t := (.array .int)) (t' := (.array .int)) (by decide) (by decide)))
  replace F_first_a := F_first_a.other W_11 (Or.inr (slot_ne (Or.inl (hw _ (List.mem_of_getElem? (i := 14) rfl))) (Or.inl (hw _ (List.mem_of_getElem? (i := 20) rfl))) (by decide) (t := (.array .int)) (t' := (.array .int)) (by decide) (by decide)))
  replace F_degree_a := F_degree_a.other W_11 (Or.inr (slot_ne (Or.inl (hw _ (List.mem_of_getElem? (i := 16) rfl))) (Or.inl (hw _ (List.mem_of_getElem? (i := 20) rfl))) (by decide) (t := (.array .int)) (t' := (.array .int)) (by decide) (by decide)))
  replace F_edges_a := F_edges_a.other W_11 (Or.inr (slot_ne (Or.inl (hw _ (List.mem_of_getElem? (i := 18) rfl))) (Or.inl (hw _ (List.mem_of_getElem? (i := 20) rfl))) (by decide) (t := (.array .int)) (t' := (.array .int)) (by decide) (by decide)))
  replace F_edgeLeft_a := F_edgeLeft_a.other W_11 (Or.inr (slot_ne (Or.inl (hw _ (List.mem_of_getElem? (i := 23) rfl))) (Or.inl (hw _ (List.mem_of_getElem? (i := 20) rfl))) (by decide) (t := (.array .boolean)) (t' := (.array .int)) (by decide) (by decide)))
  replace F_slotPlus1_a := F_slotPlus1_a.other W_11 (Or.inr (slot_ne (Or.inr (hw _ (List.mem_of_getElem? (i := 25) rfl))) (Or.inl (hw _ (List.mem_of_getElem? (i := 20) rfl))) (by decide) (t := (.array .int)) (t' := (.array .int)) (by decide) (by decide)))
  replace F_slots_a := F_slots_a.other W_11 (Or.inr (slot_ne (Or.inl (hw _ (List.mem_of_getElem? (i := 32) rfl))) (Or.inl (hw _ (List.mem_of_getElem? (i := 20) rfl))) (by decide) (t := .int) (t' := (.array .int)) (by decide) (by decide)))
  replace F_edgeCount_a := F_edgeCount_a.other W_11 (Or.inr (slot_ne (Or.inl (hw _ (List.mem_of_getElem? (i := 34) rfl))) (Or.inl (hw _ (List.mem_of_getElem? (i := 20) rfl))) (by decide) (t := .int) (t' := (.array .int)) (by decide) (by decide)))
  replace A_b_2 := A_b_2.other W_11 (Ne.symm ne_a_b_2)
  replace E_b_2 := E_b_2.wr W_11
  replace A_b_4 := A_b_4.other W_11 (Ne.symm ne_a_b_4)
  replace E_b_4 := E_b_4.wr W_11
  replace A_b_6 := A_b_6.other W_11 (Ne.symm ne_a_b_6)
  replace E_b_6 := E_b_6.wr W_11
  replace A_b_8 := A_b_8.other W_11 (Ne.symm ne_a_b_8)
  replace E_b_8 := E_b_8.wr W_11
  replace A_b_10 := A_b_10.other W_11 (Ne.symm ne_a_b_10)
  replace E_b_10 := E_b_10.wr W_11
  replace lt_a := Nat.lt_of_lt_of_le lt_a (Keep.of_wr W_11).1
  replace lt_b_2 := Nat.lt_of_lt_of_le lt_b_2 (Keep.of_wr W_11).1
  replace lt_b_4 := Nat.lt_of_lt_of_le lt_b_4 (Keep.of_wr W_11).1
  replace lt_b_6 := Nat.lt_of_lt_of_le lt_b_6 (Keep.of_wr W_11).1
  replace lt_b_8 := Nat.lt_of_lt_of_le lt_b_8 (Keep.of_wr W_11).1
  replace lt_b_10 := Nat.lt_of_lt_of_le lt_b_10 (Keep.of_wr W_11).1
  replace Zs := Nat.le_trans Zs (Keep.of_wr W_11).1
  replace Kp := Kp.wr W_11 (Or.inl (by simp))
  replace F_partner_a := F_partner_a.same W_11
  replace Nf := Fr.snoc X_11 Nf g_a
  refine Win.go st_11 ?_
  clear st_11 W_11 X_10 e_10
  show Win p.tables e below _ (T_11.setTop (mkF m 44 #[.val (.ref a), .val (.int (7 : Int32))] []))
  refine s_aloadN (pc' := 45) X_11.here hx (hb hby d1_44) rfl rfl rfl ?_
  refine s_bipush (pc' := 47) (z := (16 : Int32)) X_11.here hx (hb hby d1_45) rfl rfl ?_
  obtain ⟨T_12, h_12, k_12, X_12, e_12, Ex_12, A_12, EA_12, st_12⟩ := newPE X_11 hx hZ (hw _ (List.mem_of_getElem? (i := 21) rfl)) e_11 (g := (mkF m 47 #[.val (.ref a), .val (.int (7 : Int32))] [(.int (16 : Int32)), (.ref a)])) rfl (hb hby d1_47) rfl (by decide) (cap := 16) (by decide) (by decide) (by decide) (by decide) (ad := "[Z") (by decide)
  obtain ⟨b_12, g_12⟩ : ∃ z, z = h_11.size := ⟨_, rfl⟩
  have ne_a_b_12 : a ≠ b_12 := Nat.ne_of_lt (Nat.lt_of_lt_of_le lt_a (Nat.le_of_eq g_12.symm))
  have ne_b_2_b_12 : b_2 ≠ b_12 := Nat.ne_of_lt (Nat.lt_of_lt_of_le lt_b_2 (Nat.le_of_eq g_12.symm))
  have ne_b_4_b_12 : b_4 ≠ b_12 := Nat.ne_of_lt (Nat.lt_of_lt_of_le lt_b_4 (Nat.le_of_eq g_12.symm))
  have ne_b_6_b_12 : b_6 ≠ b_12 := Nat.ne_of_lt (Nat.lt_of_lt_of_le lt_b_6 (Nat.le_of_eq g_12.symm))
  have ne_b_8_b_12 : b_8 ≠ b_12 := Nat.ne_of_lt (Nat.lt_of_lt_of_le lt_b_8 (Nat.le_of_eq g_12.symm))
  have ne_b_10_b_12 : b_10 ≠ b_12 := Nat.ne_of_lt (Nat.lt_of_lt_of_le lt_b_10 (Nat.le_of_eq g_12.symm))
  have g_b_12 : n0 ≤ b_12 := Nat.le_trans Zs (Nat.le_of_eq g_12.symm)
  have sz_b_12 : h0.size ≤ b_12 := Nat.le_trans Kp.1 (Nat.le_of_eq g_12.symm)
  rw [← g_12] at A_12 EA_12 st_12
  replace E_a := E_a.ext Ex_12
  replace F_player_a := F_player_a.ext Ex_12
  replace F_first_a := F_first_a.ext Ex_12
  replace F_degree_a := F_degree_a.ext Ex_12
  replace F_edges_a := F_edges_a.ext Ex_12
  replace F_partner_a := F_partner_a.ext Ex_12
  replace F_edgeLeft_a := F_edgeLeft_a.ext Ex_12
  replace F_slotPlus1_a := F_slotPlus1_a.ext Ex_12
  replace F_slots_a := F_slots_a.ext Ex_12
  replace F_edgeCount_a := F_edgeCount_a.ext Ex_12
  replace A_b_2 := A_b_2.ext Ex_12
  replace E_b_2 := E_b_2.ext Ex_12
  replace A_b_4 := A_b_4.ext Ex_12
  replace E_b_4 := E_b_4.ext Ex_12
  replace A_b_6 := A_b_6.ext Ex_12
  replace E_b_6 := E_b_6.ext Ex_12
  replace A_b_8 := A_b_8.ext Ex_12
  replace E_b_8 := E_b_8.ext Ex_12
  replace A_b_10 := A_b_10.ext Ex_12
  replace E_b_10 := E_b_10.ext Ex_12
  replace lt_a := Nat.lt_of_lt_of_le lt_a Ex_12.1
  replace lt_b_2 := Nat.lt_of_lt_of_le lt_b_2 Ex_12.1
  replace lt_b_4 := Nat.lt_of_lt_of_le lt_b_4 Ex_12.1
  replace lt_b_6 := Nat.lt_of_lt_of_le lt_b_6 Ex_12.1
  replace lt_b_8 := Nat.lt_of_lt_of_le lt_b_8 Ex_12.1
  replace lt_b_10 := Nat.lt_of_lt_of_le lt_b_10 Ex_12.1
  replace Zs := Nat.le_trans Zs Ex_12.1
  replace Kp := Kp.ext Ex_12
  have A_b_12 : AF Z h_12 b_12 .boolean 16 (fun _ => 0) := AF.zero (Arv.new A_12 (by decide)) (by decide)
  have lt_b_12 := A_b_12.lt
  have E_b_12 := EA_12
  refine Win.go st_12 ?_
  clear st_12 Ex_12 A_12 EA_12 g_12 X_11 e_11
  show Win p.tables e below _ (T_12.setTop (mkF m 49 #[.val (.ref a), .val (.int (7 : Int32))] [(.ref b_12), (.ref a)]))
  obtain ⟨T_13, h_13, X_13, e_13, W_13, st_13⟩ := putF X_12 hx hZ hown (host := "") (Or.inl (hw _ (List.mem_of_getElem? (i := 22) rfl))) Via.refl e_12 F_edgeLeft_a E_a (Or.inl (hw _ (List.mem_of_getElem? (i := 23) rfl))) (hw _ (List.mem_of_getElem? (i := 2) rfl)) (ty := (.array .boolean)) (by decide) rfl rfl (g := (mkF m 49 #[.val (.ref a), .val (.int (7 : Int32))] [(.ref b_12), (.ref a)])) rfl rfl (hb hby d1_49)
  replace E_a := E_a.wr W_13
  replace F_player_a := F_player_a.other W_13 (Or.inr (slot_ne (Or.inl (hw _ (List.mem_of_getElem? (i := 12) rfl))) (Or.inl (hw _ (List.mem_of_getElem? (i := 23) rfl))) (by decide) (t := (.array .int)) (t' := (.array .boolean)) (by decide) (by decide)))
  replace F_first_a := F_first_a.other W_13 (Or.inr (slot_ne (Or.inl (hw _ (List.mem_of_getElem? (i := 14) rfl))) (Or.inl (hw _ (List.mem_of_getElem? (i := 23) rfl))) (by decide) (t := (.array .int)) (t' := (.array .boolean)) (by decide) (by decide)))
  replace F_degree_a := F_degree_a.other W_13 (Or.inr (slot_ne (Or.inl (hw _ (List.mem_of_getElem? (i := 16) rfl))) (Or.inl (hw _ (List.mem_of_getElem? (i := 23) rfl))) (by decide) (t := (.array .int)) (t' := (.array .boolean)) (by decide) (by decide)))
  replace F_edges_a := F_edges_a.other W_13 (Or.inr (slot_ne (Or.inl (hw _ (List.mem_of_getElem? (i := 18) rfl))) (Or.inl (hw _ (List.mem_of_getElem? (i := 23) rfl))) (by decide) (t := (.array .int)) (t' := (.array .boolean)) (by decide) (by decide)))
  replace F_partner_a := F_partner_a.other W_13 (Or.inr (slot_ne (Or.inl (hw _ (List.mem_of_getElem? (i := 20) rfl))) (Or.inl (hw _ (List.mem_of_getElem? (i := 23) rfl))) (by decide) (t := (.array .int)) (t' := (.array .boolean)) (by decide) (by decide)))
  replace F_slotPlus1_a := F_slotPlus1_a.other W_13 (Or.inr (slot_ne (Or.inr (hw _ (List.mem_of_getElem? (i := 25) rfl))) (Or.inl (hw _ (List.mem_of_getElem? (i := 23) rfl))) (by decide) (t := (.array .int)) (t' := (.array .boolean)) (by decide) (by decide)))
  replace F_slots_a := F_slots_a.other W_13 (Or.inr (slot_ne (Or.inl (hw _ (List.mem_of_getElem? (i := 32) rfl))) (Or.inl (hw _ (List.mem_of_getElem? (i := 23) rfl))) (by decide) (t := .int) (t' := (.array .boolean)) (by decide) (by decide)))
  replace F_edgeCount_a := F_edgeCount_a.other W_13 (Or.inr (slot_ne (Or.inl (hw _ (List.mem_of_getElem? (i := 34) rfl))) (Or.inl (hw _ (List.mem_of_getElem? (i := 23) rfl))) (by decide) (t := .int) (t' := (.array .boolean)) (by decide) (by decide)))
  replace A_b_2 := A_b_2.other W_13 (Ne.symm ne_a_b_2)
  replace E_b_2 := E_b_2.wr W_13
  replace A_b_4 := A_b_4.other W_13 (Ne.symm ne_a_b_4)
  replace E_b_4 := E_b_4.wr W_13
  replace A_b_6 := A_b_6.other W_13 (Ne.symm ne_a_b_6)
  replace E_b_6 := E_b_6.wr W_13
  replace A_b_8 := A_b_8.other W_13 (Ne.symm ne_a_b_8)
  replace E_b_8 := E_b_8.wr W_13
  replace A_b_10 := A_b_10.other W_13 (Ne.symm ne_a_b_10)
  replace E_b_10 := E_b_10.wr W_13
  replace A_b_12 := A_b_12.other W_13 (Ne.symm ne_a_b_12)
  replace E_b_12 := E_b_12.wr W_13
  replace lt_a := Nat.lt_of_lt_of_le lt_a (Keep.of_wr W_13).1
  replace lt_b_2 := Nat.lt_of_lt_of_le lt_b_2 (Keep.of_wr W_13).1
  replace lt_b_4 := Nat.lt_of_lt_of_le lt_b_4 (Keep.of_wr W_13).1
  replace lt_b_6 := Nat.lt_of_lt_of_le lt_b_6 (Keep.of_wr W_13).1
  replace lt_b_8 := Nat.lt_of_lt_of_le lt_b_8 (Keep.of_wr W_13).1
  replace lt_b_10 := Nat.lt_of_lt_of_le lt_b_10 (Keep.of_wr W_13).1
  replace lt_b_12 := Nat.lt_of_lt_of_le lt_b_12 (Keep.of_wr W_13).1
  replace Zs := Nat.le_trans Zs (Keep.of_wr W_13).1
  replace Kp := Kp.wr W_13 (Or.inl (by simp))
  replace F_edgeLeft_a := F_edgeLeft_a.same W_13
  replace Nf := Fr.snoc X_13 Nf g_a
  refine Win.go st_13 ?_
  clear st_13 W_13 X_12 e_12
  show Win p.tables e below _ (T_13.setTop (mkF m 52 #[.val (.ref a), .val (.int (7 : Int32))] []))
  refine s_aloadN (pc' := 53) X_13.here hx (hb hby d1_52) rfl rfl rfl ?_
  refine s_iloadN (pc' := 54) X_13.here hx (hb hby d1_53) rfl rfl ?_
  refine s_iconst (pc' := 55) (z := (1 : Int32)) X_13.here hx (hb hby d1_54) rfl rfl ?_
  refine Win.go (fun _ k => XS.iadd X_13.here hx rfl (hb hby d1_55) rfl k) ?_
  show Win p.tables e below _ (T_13.setTop (mkF m 56 #[.val (.ref a), .val (.int (7 : Int32))] [(.int (8 : Int32)), (.ref a)]))
  obtain ⟨T_14, h_14, k_14, X_14, e_14, Ex_14, A_14, EA_14, st_14⟩ := newPE X_13 hx hZ (hw _ (List.mem_of_getElem? (i := 10) rfl)) e_13 (g := (mkF m 56 #[.val (.ref a), .val (.int (7 : Int32))] [(.int (8 : Int32)), (.ref a)])) rfl (hb hby d1_56) rfl (by decide) (cap := 8) (by decide) (by decide) (by decide) (by decide) (ad := "[I") (by decide)
  obtain ⟨b_14, g_14⟩ : ∃ z, z = h_13.size := ⟨_, rfl⟩
  have ne_a_b_14 : a ≠ b_14 := Nat.ne_of_lt (Nat.lt_of_lt_of_le lt_a (Nat.le_of_eq g_14.symm))
  have ne_b_2_b_14 : b_2 ≠ b_14 := Nat.ne_of_lt (Nat.lt_of_lt_of_le lt_b_2 (Nat.le_of_eq g_14.symm))
  have ne_b_4_b_14 : b_4 ≠ b_14 := Nat.ne_of_lt (Nat.lt_of_lt_of_le lt_b_4 (Nat.le_of_eq g_14.symm))
  have ne_b_6_b_14 : b_6 ≠ b_14 := Nat.ne_of_lt (Nat.lt_of_lt_of_le lt_b_6 (Nat.le_of_eq g_14.symm))
  have ne_b_8_b_14 : b_8 ≠ b_14 := Nat.ne_of_lt (Nat.lt_of_lt_of_le lt_b_8 (Nat.le_of_eq g_14.symm))
  have ne_b_10_b_14 : b_10 ≠ b_14 := Nat.ne_of_lt (Nat.lt_of_lt_of_le lt_b_10 (Nat.le_of_eq g_14.symm))
  have ne_b_12_b_14 : b_12 ≠ b_14 := Nat.ne_of_lt (Nat.lt_of_lt_of_le lt_b_12 (Nat.le_of_eq g_14.symm))
  have g_b_14 : n0 ≤ b_14 := Nat.le_trans Zs (Nat.le_of_eq g_14.symm)
  have sz_b_14 : h0.size ≤ b_14 := Nat.le_trans Kp.1 (Nat.le_of_eq g_14.symm)
  rw [← g_14] at A_14 EA_14 st_14
  replace E_a := E_a.ext Ex_14
  replace F_player_a := F_player_a.ext Ex_14
  replace F_first_a := F_first_a.ext Ex_14
  replace F_degree_a := F_degree_a.ext Ex_14
  replace F_edges_a := F_edges_a.ext Ex_14
  replace F_partner_a := F_partner_a.ext Ex_14
  replace F_edgeLeft_a := F_edgeLeft_a.ext Ex_14
  replace F_slotPlus1_a := F_slotPlus1_a.ext Ex_14
  replace F_slots_a := F_slots_a.ext Ex_14
  replace F_edgeCount_a := F_edgeCount_a.ext Ex_14
  replace A_b_2 := A_b_2.ext Ex_14
  replace E_b_2 := E_b_2.ext Ex_14
  replace A_b_4 := A_b_4.ext Ex_14
  replace E_b_4 := E_b_4.ext Ex_14
  replace A_b_6 := A_b_6.ext Ex_14
  replace E_b_6 := E_b_6.ext Ex_14
  replace A_b_8 := A_b_8.ext Ex_14
  replace E_b_8 := E_b_8.ext Ex_14
  replace A_b_10 := A_b_10.ext Ex_14
  replace E_b_10 := E_b_10.ext Ex_14
  replace A_b_12 := A_b_12.ext Ex_14
  replace E_b_12 := E_b_12.ext Ex_14
  replace lt_a := Nat.lt_of_lt_of_le lt_a Ex_14.1
  replace lt_b_2 := Nat.lt_of_lt_of_le lt_b_2 Ex_14.1
  replace lt_b_4 := Nat.lt_of_lt_of_le lt_b_4 Ex_14.1
  replace lt_b_6 := Nat.lt_of_lt_of_le lt_b_6 Ex_14.1
  replace lt_b_8 := Nat.lt_of_lt_of_le lt_b_8 Ex_14.1
  replace lt_b_10 := Nat.lt_of_lt_of_le lt_b_10 Ex_14.1
  replace lt_b_12 := Nat.lt_of_lt_of_le lt_b_12 Ex_14.1
  replace Zs := Nat.le_trans Zs Ex_14.1
  replace Kp := Kp.ext Ex_14
  have A_b_14 : AF Z h_14 b_14 .int 8 (fun _ => 0) := AF.zero (Arv.new A_14 (by decide)) (by decide)
  have lt_b_14 := A_b_14.lt
  have E_b_14 := EA_14
  refine Win.go st_14 ?_
  clear st_14 Ex_14 A_14 EA_14 g_14 X_13 e_13
  show Win p.tables e below _ (T_14.setTop (mkF m 58 #[.val (.ref a), .val (.int (7 : Int32))] [(.ref b_14), (.ref a)]))
  obtain ⟨T_15, h_15, X_15, e_15, W_15, st_15⟩ := putF X_14 hx hZ hown (host := "") (Or.inl (hw _ (List.mem_of_getElem? (i := 24) rfl))) Via.refl e_14 F_slotPlus1_a E_a (Or.inr ⟨(hw _ (List.mem_of_getElem? (i := 25) rfl)), rfl, hnm⟩) (hw _ (List.mem_of_getElem? (i := 2) rfl)) (ty := (.array .int)) (by decide) rfl rfl (g := (mkF m 58 #[.val (.ref a), .val (.int (7 : Int32))] [(.ref b_14), (.ref a)])) rfl rfl (hb hby d1_58)
  replace E_a := E_a.wr W_15
  replace F_player_a := F_player_a.other W_15 (Or.inr (slot_ne (Or.inl (hw _ (List.mem_of_getElem? (i := 12) rfl))) (Or.inr (hw _ (List.mem_of_getElem? (i := 25) rfl))) (by decide) (t := (.array .int)) (t' := (.array .int)) (by decide) (by decide)))
  replace F_first_a := F_first_a.other W_15 (Or.inr (slot_ne (Or.inl (hw _ (List.mem_of_getElem? (i := 14) rfl))) (Or.inr (hw _ (List.mem_of_getElem? (i := 25) rfl))) (by decide) (t := (.array .int)) (t' := (.array .int)) (by decide) (by decide)))
  replace F_degree_a := F_degree_a.other W_15 (Or.inr (slot_ne (Or.inl (hw _ (List.mem_of_getElem? (i := 16) rfl))) (Or.inr (hw _ (List.mem_of_getElem? (i := 25) rfl))) (by decide) (t := (.array .int)) (t' := (.array .int)) (by decide) (by decide)))
  replace F_edges_a := F_edges_a.other W_15 (Or.inr (slot_ne (Or.inl (hw _ (List.mem_of_getElem? (i := 18) rfl))) (Or.inr (hw _ (List.mem_of_getElem? (i := 25) rfl))) (by decide) (t := (.array .int)) (t' := (.array .int)) (by decide) (by decide)))
  replace F_partner_a := F_partner_a.other W_15 (Or.inr (slot_ne (Or.inl (hw _ (List.mem_of_getElem? (i := 20) rfl))) (Or.inr (hw _ (List.mem_of_getElem? (i := 25) rfl))) (by decide) (t := (.array .int)) (t' := (.array .int)) (by decide) (by decide)))
  replace F_edgeLeft_a := F_edgeLeft_a.other W_15 (Or.inr (slot_ne (Or.inl (hw _ (List.mem_of_getElem? (i := 23) rfl))) (Or.inr (hw _ (List.mem_of_getElem? (i := 25) rfl))) (by decide) (t := (.array .boolean)) (t' := (.array .int)) (by decide) (by decide)))
  replace F_slots_a := F_slots_a.other W_15 (Or.inr (slot_ne (Or.inl (hw _ (List.mem_of_getElem? (i := 32) rfl))) (Or.inr (hw _ (List.mem_of_getElem? (i := 25) rfl))) (by decide) (t := .int) (t' := (.array .int)) (by decide) (by decide)))
  replace F_edgeCount_a := F_edgeCount_a.other W_15 (Or.inr (slot_ne (Or.inl (hw _ (List.mem_of_getElem? (i := 34) rfl))) (Or.inr (hw _ (List.mem_of_getElem? (i := 25) rfl))) (by decide) (t := .int) (t' := (.array .int)) (by decide) (by decide)))
  replace A_b_2 := A_b_2.other W_15 (Ne.symm ne_a_b_2)
  replace E_b_2 := E_b_2.wr W_15
  replace A_b_4 := A_b_4.other W_15 (Ne.symm ne_a_b_4)
  replace E_b_4 := E_b_4.wr W_15
  replace A_b_6 := A_b_6.other W_15 (Ne.symm ne_a_b_6)
  replace E_b_6 := E_b_6.wr W_15
  replace A_b_8 := A_b_8.other W_15 (Ne.symm ne_a_b_8)
  replace E_b_8 := E_b_8.wr W_15
  replace A_b_10 := A_b_10.other W_15 (Ne.symm ne_a_b_10)
  replace E_b_10 := E_b_10.wr W_15
  replace A_b_12 := A_b_12.other W_15 (Ne.symm ne_a_b_12)
  replace E_b_12 := E_b_12.wr W_15
  replace A_b_14 := A_b_14.other W_15 (Ne.symm ne_a_b_14)
  replace E_b_14 := E_b_14.wr W_15
  replace lt_a := Nat.lt_of_lt_of_le lt_a (Keep.of_wr W_15).1
  replace lt_b_2 := Nat.lt_of_lt_of_le lt_b_2 (Keep.of_wr W_15).1
  replace lt_b_4 := Nat.lt_of_lt_of_le lt_b_4 (Keep.of_wr W_15).1
  replace lt_b_6 := Nat.lt_of_lt_of_le lt_b_6 (Keep.of_wr W_15).1
  replace lt_b_8 := Nat.lt_of_lt_of_le lt_b_8 (Keep.of_wr W_15).1
  replace lt_b_10 := Nat.lt_of_lt_of_le lt_b_10 (Keep.of_wr W_15).1
  replace lt_b_12 := Nat.lt_of_lt_of_le lt_b_12 (Keep.of_wr W_15).1
  replace lt_b_14 := Nat.lt_of_lt_of_le lt_b_14 (Keep.of_wr W_15).1
  replace Zs := Nat.le_trans Zs (Keep.of_wr W_15).1
  replace Kp := Kp.wr W_15 (Or.inl (by simp))
  replace F_slotPlus1_a := F_slotPlus1_a.same W_15
  replace Nf := Fr.snoc X_15 Nf g_a
  refine Win.go st_15 ?_
  clear st_15 W_15 X_14 e_14
  show Win p.tables e below _ (T_15.setTop (mkF m 61 #[.val (.ref a), .val (.int (7 : Int32))] []))
  refine winV X_15 hx hlk e_15 Bd.returns (hb hby d1_61) (by decide) (by decide) ?_
  exact ⟨Nf, Kp, ⟨b_2, b_4, b_6, b_8, b_10, b_12, b_14, g_b_2, sz_b_2, g_b_4, sz_b_4, g_b_6, sz_b_6, g_b_8, sz_b_8, g_b_10, sz_b_10, g_b_12, sz_b_12, g_b_14, sz_b_14, ne_b_2_b_4, ne_b_2_b_6, ne_b_2_b_8, ne_b_2_b_10, ne_b_2_b_12, ne_b_2_b_14, ne_b_4_b_6, ne_b_4_b_8, ne_b_4_b_10, ne_b_4_b_12, ne_b_4_b_14, ne_b_6_b_8, ne_b_6_b_10, ne_b_6_b_12, ne_b_6_b_14, ne_b_8_b_10, ne_b_8_b_12, ne_b_8_b_14, ne_b_10_b_12, ne_b_10_b_14, ne_b_12_b_14, F_player_a, F_first_a, F_degree_a, F_edges_a, F_partner_a, F_edgeLeft_a, F_slotPlus1_a, F_slots_a, F_edgeCount_a, A_b_2, A_b_4, A_b_6, A_b_8, A_b_10, A_b_12, A_b_14⟩, rfl⟩
theorem d7_0 : decode prog_53_method_14_code 0 = .ok (.aload_n 0, 1) := by decide +kernel
theorem d7_1 : decode prog_53_method_14_code 1 = .ok (.getfield 36, 3) := by decide +kernel
theorem d7_4 : decode prog_53_method_14_code 4 = .ok (.aload_n 0, 1) := by decide +kernel
theorem d7_5 : decode prog_53_method_14_code 5 = .ok (.getfield 7, 3) := by decide +kernel
theorem d7_8 : decode prog_53_method_14_code 8 = .ok (.arraylength, 1) := by decide +kernel
theorem d7_9 : decode prog_53_method_14_code 9 = .ok (.if_icmp .ne 77, 3) := by decide +kernel
theorem d7_86 : decode prog_53_method_14_code 86 = .ok (.aload_n 0, 1) := by decide +kernel
theorem d7_87 : decode prog_53_method_14_code 87 = .ok (.dup, 1) := by decide +kernel
theorem d7_88 : decode prog_53_method_14_code 88 = .ok (.getfield 36, 3) := by decide +kernel
theorem d7_91 : decode prog_53_method_14_code 91 = .ok (.dup_x1, 1) := by decide +kernel
theorem d7_92 : decode prog_53_method_14_code 92 = .ok (.iconst 1, 1) := by decide +kernel
theorem d7_93 : decode prog_53_method_14_code 93 = .ok (.iadd, 1) := by decide +kernel
theorem d7_94 : decode prog_53_method_14_code 94 = .ok (.putfield 36, 3) := by decide +kernel
theorem d7_97 : decode prog_53_method_14_code 97 = .ok (.istore_n 2, 1) := by decide +kernel
theorem d7_98 : decode prog_53_method_14_code 98 = .ok (.aload_n 0, 1) := by decide +kernel
theorem d7_99 : decode prog_53_method_14_code 99 = .ok (.getfield 7, 3) := by decide +kernel
theorem d7_102 : decode prog_53_method_14_code 102 = .ok (.iload_n 2, 1) := by decide +kernel
theorem d7_103 : decode prog_53_method_14_code 103 = .ok (.iload_n 1, 1) := by decide +kernel
theorem d7_104 : decode prog_53_method_14_code 104 = .ok (.iastore, 1) := by decide +kernel
theorem d7_105 : decode prog_53_method_14_code 105 = .ok (.aload_n 0, 1) := by decide +kernel
theorem d7_106 : decode prog_53_method_14_code 106 = .ok (.getfield 13, 3) := by decide +kernel
theorem d7_109 : decode prog_53_method_14_code 109 = .ok (.iload_n 2, 1) := by decide +kernel
theorem d7_110 : decode prog_53_method_14_code 110 = .ok (.aload_n 0, 1) := by decide +kernel
theorem d7_111 : decode prog_53_method_14_code 111 = .ok (.getfield 40, 3) := by decide +kernel
theorem d7_114 : decode prog_53_method_14_code 114 = .ok (.iastore, 1) := by decide +kernel
theorem d7_115 : decode prog_53_method_14_code 115 = .ok (.aload_n 0, 1) := by decide +kernel
theorem d7_116 : decode prog_53_method_14_code 116 = .ok (.getfield 16, 3) := by decide +kernel
theorem d7_119 : decode prog_53_method_14_code 119 = .ok (.iload_n 2, 1) := by decide +kernel
theorem d7_120 : decode prog_53_method_14_code 120 = .ok (.iconst 0, 1) := by decide +kernel
theorem d7_121 : decode prog_53_method_14_code 121 = .ok (.iastore, 1) := by decide +kernel
theorem d7_122 : decode prog_53_method_14_code 122 = .ok (.aload_n 0, 1) := by decide +kernel
theorem d7_123 : decode prog_53_method_14_code 123 = .ok (.getfield 22, 3) := by decide +kernel
theorem d7_126 : decode prog_53_method_14_code 126 = .ok (.iload_n 2, 1) := by decide +kernel
theorem d7_127 : decode prog_53_method_14_code 127 = .ok (.iconst 0, 1) := by decide +kernel
theorem d7_128 : decode prog_53_method_14_code 128 = .ok (.iastore, 1) := by decide +kernel
theorem d7_129 : decode prog_53_method_14_code 129 = .ok (.aload_n 0, 1) := by decide +kernel
theorem d7_130 : decode prog_53_method_14_code 130 = .ok (.getfield 25, 3) := by decide +kernel
theorem d7_133 : decode prog_53_method_14_code 133 = .ok (.iload_n 2, 1) := by decide +kernel
theorem d7_134 : decode prog_53_method_14_code 134 = .ok (.iconst 0, 1) := by decide +kernel
theorem d7_135 : decode prog_53_method_14_code 135 = .ok (.bastore, 1) := by decide +kernel
theorem d7_136 : decode prog_53_method_14_code 136 = .ok (.aload_n 0, 1) := by decide +kernel
theorem d7_137 : decode prog_53_method_14_code 137 = .ok (.getfield 29, 3) := by decide +kernel
theorem d7_140 : decode prog_53_method_14_code 140 = .ok (.iload_n 1, 1) := by decide +kernel
theorem d7_141 : decode prog_53_method_14_code 141 = .ok (.iload_n 2, 1) := by decide +kernel
theorem d7_142 : decode prog_53_method_14_code 142 = .ok (.iconst 1, 1) := by decide +kernel
theorem d7_143 : decode prog_53_method_14_code 143 = .ok (.iadd, 1) := by decide +kernel
theorem d7_144 : decode prog_53_method_14_code 144 = .ok (.iastore, 1) := by decide +kernel
theorem d7_145 : decode prog_53_method_14_code 145 = .ok (.iload_n 2, 1) := by decide +kernel
theorem d7_146 : decode prog_53_method_14_code 146 = .ok (.ireturn, 1) := by decide +kernel
theorem ef_7_0 (m : MethodId) (a : Addr) (p1 : Int32) : entryFrame m #[(.ref a), (.int p1)] 3 = mkF m 0 #[.val (.ref a), .val (.int p1), .unset] [] := by first | (simp [entryFrame, mkF, argsToLocals, Value.category]; done) | rfl
def Q7_0 (Z : State) (a : Addr) (p1 : Int32) (pl : Addr) (fi : Addr) (de : Addr) (ed : Addr) (pa : Addr) (el : Addr) (sp : Addr) (f1 : Int → Int32) (f2 : Int → Int32) (f3 : Int → Int32) (f4 : Int → Int32) (f5 : Int → Int32) (f6 : Int → Int32) (g : Int → Int32) (h0 : Heap) (n0 : Nat) (v : Option Value) (h : Heap) (L : List Loc) : Prop := Fr n0 L ∧ Keep h0 h [a, pl, fi, de, pa, el, sp] ∧ Fld Z h a "com/example/nearstable/nearstable/maximal/Players" "player" "[I" (.ref pl) ∧ Fld Z h a "com/example/nearstable/nearstable/maximal/Players" "first" "[I" (.ref fi) ∧ Fld Z h a "com/example/nearstable/nearstable/maximal/Players" "degree" "[I" (.ref de) ∧ Fld Z h a "com/example/nearstable/nearstable/maximal/Players" "edges" "[I" (.ref ed) ∧ Fld Z h a "com/example/nearstable/nearstable/maximal/Players" "partner" "[I" (.ref pa) ∧ Fld Z h a "com/example/nearstable/nearstable/maximal/Players" "edgeLeft" "[Z" (.ref el) ∧ Fld Z h a "com/example/nearstable/nearstable/maximal/Players" "slotPlus1" "[I" (.ref sp) ∧ Fld Z h a "com/example/nearstable/nearstable/maximal/Players" "slots" "I" (.int (1 : Int32)) ∧ Fld Z h a "com/example/nearstable/nearstable/maximal/Players" "edgeCount" "I" (.int (0 : Int32)) ∧ AF Z h pl .int 16 (updF f1 (0 : Int) p1) ∧ AF Z h fi .int 16 (updF f2 (0 : Int) (0 : Int32)) ∧ AF Z h de .int 16 (updF f3 (0 : Int) (0 : Int32)) ∧ AF Z h pa .int 16 (updF f5 (0 : Int) (0 : Int32)) ∧ AF Z h el .boolean 16 (updF f6 (0 : Int) (0 : Int32)) ∧ AF Z h sp .int 8 (updF g (p1).toInt (1 : Int32)) ∧ v = some (.int (0 : Int32))
set_option maxRecDepth 65536 in
set_option maxHeartbeats 40000000 in
theorem rm7_0 (l : Launch) (Z : State) (a0 : Array Value) (hw : ∀ d ∈ tables_1, d.before a0 Z = true) (ws : List Jvm.Cond) (a : Addr) (p1 : Int32) (pl : Addr) (fi : Addr) (de : Addr) (ed : Addr) (pa : Addr) (el : Addr) (sp : Addr) (f1 : Int → Int32) (f2 : Int → Int32) (f3 : Int → Int32) (f4 : Int → Int32) (f5 : Int → Int32) (f6 : Int → Int32) (g : Int → Int32) (h0 : Heap) (n0 : Nat) (Zs : n0 ≤ h0.size) (E_a : Exa Z h0 a "com/example/nearstable/nearstable/maximal/Players") (F_player_a : Fld Z h0 a "com/example/nearstable/nearstable/maximal/Players" "player" "[I" (.ref pl)) (F_first_a : Fld Z h0 a "com/example/nearstable/nearstable/maximal/Players" "first" "[I" (.ref fi)) (F_degree_a : Fld Z h0 a "com/example/nearstable/nearstable/maximal/Players" "degree" "[I" (.ref de)) (F_edges_a : Fld Z h0 a "com/example/nearstable/nearstable/maximal/Players" "edges" "[I" (.ref ed)) (F_partner_a : Fld Z h0 a "com/example/nearstable/nearstable/maximal/Players" "partner" "[I" (.ref pa)) (F_edgeLeft_a : Fld Z h0 a "com/example/nearstable/nearstable/maximal/Players" "edgeLeft" "[Z" (.ref el)) (F_slotPlus1_a : Fld Z h0 a "com/example/nearstable/nearstable/maximal/Players" "slotPlus1" "[I" (.ref sp)) (F_slots_a : Fld Z h0 a "com/example/nearstable/nearstable/maximal/Players" "slots" "I" (.int (0 : Int32))) (F_edgeCount_a : Fld Z h0 a "com/example/nearstable/nearstable/maximal/Players" "edgeCount" "I" (.int (0 : Int32))) (A_pl : AF Z h0 pl .int 16 f1) (A_fi : AF Z h0 fi .int 16 f2) (A_de : AF Z h0 de .int 16 f3) (A_ed : AF Z h0 ed .int 16 f4) (A_pa : AF Z h0 pa .int 16 f5) (A_el : AF Z h0 el .boolean 16 f6) (A_sp : AF Z h0 sp .int 8 g) (g_a : n0 ≤ a) (g_pl : n0 ≤ pl) (g_fi : n0 ≤ fi) (g_de : n0 ≤ de) (g_ed : n0 ≤ ed) (g_pa : n0 ≤ pa) (g_el : n0 ≤ el) (g_sp : n0 ≤ sp) (ne_a_pl : a ≠ pl) (ne_a_fi : a ≠ fi) (ne_a_de : a ≠ de) (ne_a_ed : a ≠ ed) (ne_a_pa : a ≠ pa) (ne_a_el : a ≠ el) (ne_a_sp : a ≠ sp) (ne_pl_fi : pl ≠ fi) (ne_pl_de : pl ≠ de) (ne_pl_ed : pl ≠ ed) (ne_pl_pa : pl ≠ pa) (ne_pl_el : pl ≠ el) (ne_pl_sp : pl ≠ sp) (ne_fi_de : fi ≠ de) (ne_fi_ed : fi ≠ ed) (ne_fi_pa : fi ≠ pa) (ne_fi_el : fi ≠ el) (ne_fi_sp : fi ≠ sp) (ne_de_ed : de ≠ ed) (ne_de_pa : de ≠ pa) (ne_de_el : de ≠ el) (ne_de_sp : de ≠ sp) (ne_ed_pa : ed ≠ pa) (ne_ed_el : ed ≠ el) (ne_ed_sp : ed ≠ sp) (ne_pa_el : pa ≠ el) (ne_pa_sp : pa ≠ sp) (ne_el_sp : el ≠ sp) (hbd : 0 ≤ p1.toInt ∧ p1.toInt < 8) :
    MetFree l (⟨"com/example/nearstable/nearstable/maximal/Players", "newSlot", "(I)I"⟩ : MethodName) (head1 (Jvm.Cond.code (⟨"com/example/nearstable/nearstable/maximal/Players", "newSlot", "(I)I"⟩ : MethodName) prog_53_method_14_code 3 (some .int) :: ws) ({ frames := 0, cells := 0, slots := 0, locals := 0 } : Room)) (fun as' U => as' = #[(.ref a), (.int p1)] ∧ Z.Warmed39 U.vm ∧ U.heap = h0) (fun _ _ _ _ _ => True) (fun _ U o U' => ∃ v L, o = .returned v ∧ Q7_0 Z a p1 pl fi de ed pa el sp f1 f2 f3 f4 f5 f6 g h0 n0 v U'.heap L ∧ FrameEnd U o U' L ({ frames := 0, cells := 0, slots := 0, locals := 0 } : Room).cells ({ frames := 0, cells := 0, slots := 0, locals := 0 } : Room).slots) := by
  refine MetFree.of_bodySF (plainFor_of_name pn_1) hisR ?_
  intro p e s m args below meth c s₁ Bd hml0 hP hK
  obtain ⟨rfl, hZ, hh⟩ := hP
  have hx := Bd.exec
  have hby := Bd.bytes
  have hml : c.maxLocals = 3 := hml0
  have hown : s.vm.findClass "com/example/nearstable/nearstable/maximal/Players" = some m.cls := findClass_of_methodNamed Bd.named
  have hnm := (name_of_methodNamed Bd.named Bd.method).1
  have hlk : meth.locks = false := Bd.notSynchronized
  have X0 : Stand p l e ({ frames := 0, cells := 0, slots := 0, locals := 0 } : Room) s m #[(.ref a), (.int p1)] below meth c s₁ [] 0 0 := Stand.of_body Bd
  have e0 : s₁.heap = h0 := by rw [← hh, Bd.state]; rfl
  have Nf := Fr.nil n0
  refine (?_ : Win p.tables e below (PostQ s (Q7_0 Z a p1 pl fi de ed pa el sp f1 f2 f3 f4 f5 f6 g h0 n0) ({ frames := 0, cells := 0, slots := 0, locals := 0 } : Room).cells ({ frames := 0, cells := 0, slots := 0, locals := 0 } : Room).slots) (s₁.setTop (entryFrame m #[(.ref a), (.int p1)] 3)))
  rw [ef_7_0]
  have Kp : Keep h0 h0 [a, pl, fi, de, pa, el, sp] := Keep.refl h0 _
  have lt_a : a < h0.size := E_a.lt
  have lt_pl : pl < h0.size := A_pl.lt
  have lt_fi : fi < h0.size := A_fi.lt
  have lt_de : de < h0.size := A_de.lt
  have lt_ed : ed < h0.size := A_ed.lt
  have lt_pa : pa < h0.size := A_pa.lt
  have lt_el : el < h0.size := A_el.lt
  have lt_sp : sp < h0.size := A_sp.lt
  show Win p.tables e below _ (s₁.setTop (mkF m 0 #[.val (.ref a), .val (.int p1), .unset] []))
  refine s_aloadN (pc' := 1) X0.here hx (hb hby d7_0) rfl rfl rfl ?_
  obtain ⟨T_16, X_16, e_16, st_16⟩ := getF X0 hx hZ hown (host := "") (Or.inl (hw _ (List.mem_of_getElem? (i := 31) rfl))) Via.refl e0 F_slots_a (g := (mkF m 1 #[.val (.ref a), .val (.int p1), .unset] [(.ref a)])) rfl rfl (hb hby d7_1)
  refine Win.go st_16 ?_
  clear st_16 X0 e0
  show Win p.tables e below _ (T_16.setTop (mkF m 4 #[.val (.ref a), .val (.int p1), .unset] [(.int (0 : Int32))]))
  refine s_aloadN (pc' := 5) X_16.here hx (hb hby d7_4) rfl rfl rfl ?_
  obtain ⟨T_17, X_17, e_17, st_17⟩ := getF X_16 hx hZ hown (host := "") (Or.inl (hw _ (List.mem_of_getElem? (i := 11) rfl))) Via.refl e_16 F_player_a (g := (mkF m 5 #[.val (.ref a), .val (.int p1), .unset] [(.ref a), (.int (0 : Int32))])) rfl rfl (hb hby d7_5)
  refine Win.go st_17 ?_
  clear st_17 X_16 e_16
  show Win p.tables e below _ (T_17.setTop (mkF m 8 #[.val (.ref a), .val (.int p1), .unset] [(.ref pl), (.int (0 : Int32))]))
  obtain ⟨cl_18, Ar_18, S_18, G_18⟩ := id A_pl
  refine Win.go (fun _ k => X_17.arraylength hx (by rw [e_17]; exact Ar_18.1) (State.isArrayOf_alike hZ.alike Ar_18.2.1) (g := (mkF m 8 #[.val (.ref a), .val (.int p1), .unset] [(.ref pl), (.int (0 : Int32))])) rfl rfl (hb hby d7_8) _ k) ?_
  rw [S_18]
  clear Ar_18 S_18 G_18
  show Win p.tables e below _ (T_17.setTop (mkF m 9 #[.val (.ref a), .val (.int p1), .unset] [(.int (16 : Int32)), (.int (0 : Int32))]))
  refine s_icmpYes (pc' := 86) X_17.here hx (hb hby d7_9) (feqI (x := (0 : Int32)) (y := (16 : Int32)) (by decide)).2 (by decide) (by decide) ?_
  refine s_aloadN (pc' := 87) X_17.here hx (hb hby d7_86) rfl rfl rfl ?_
  refine s_dup (pc' := 88) X_17.here hx (hb hby d7_87) rfl rfl ?_
  obtain ⟨T_19, X_19, e_19, st_19⟩ := getF X_17 hx hZ hown (host := "") (Or.inl (hw _ (List.mem_of_getElem? (i := 31) rfl))) Via.refl e_17 F_slots_a (g := (mkF m 88 #[.val (.ref a), .val (.int p1), .unset] [(.ref a), (.ref a)])) rfl rfl (hb hby d7_88)
  refine Win.go st_19 ?_
  clear st_19 X_17 e_17
  show Win p.tables e below _ (T_19.setTop (mkF m 91 #[.val (.ref a), .val (.int p1), .unset] [(.int (0 : Int32)), (.ref a)]))
  refine Win.go (fun _ k => XS.dupX1 X_19.here hx rfl (hb hby d7_91) rfl rfl rfl k) ?_
  show Win p.tables e below _ (T_19.setTop (mkF m 92 #[.val (.ref a), .val (.int p1), .unset] [(.int (0 : Int32)), (.ref a), (.int (0 : Int32))]))
  refine s_iconst (pc' := 93) (z := (1 : Int32)) X_19.here hx (hb hby d7_92) rfl rfl ?_
  refine Win.go (fun _ k => XS.iadd X_19.here hx rfl (hb hby d7_93) rfl k) ?_
  show Win p.tables e below _ (T_19.setTop (mkF m 94 #[.val (.ref a), .val (.int p1), .unset] [(.int (1 : Int32)), (.ref a), (.int (0 : Int32))]))
  obtain ⟨T_20, h_20, X_20, e_20, W_20, st_20⟩ := putF X_19 hx hZ hown (host := "") (Or.inl (hw _ (List.mem_of_getElem? (i := 31) rfl))) Via.refl e_19 F_slots_a E_a (Or.inl (hw _ (List.mem_of_getElem? (i := 32) rfl))) (hw _ (List.mem_of_getElem? (i := 2) rfl)) (ty := .int) (by decide) rfl rfl (g := (mkF m 94 #[.val (.ref a), .val (.int p1), .unset] [(.int (1 : Int32)), (.ref a), (.int (0 : Int32))])) rfl rfl (hb hby d7_94)
  replace E_a := E_a.wr W_20
  replace F_player_a := F_player_a.other W_20 (Or.inr (slot_ne (Or.inl (hw _ (List.mem_of_getElem? (i := 12) rfl))) (Or.inl (hw _ (List.mem_of_getElem? (i := 32) rfl))) (by decide) (t := (.array .int)) (t' := .int) (by decide) (by decide)))
  replace F_first_a := F_first_a.other W_20 (Or.inr (slot_ne (Or.inl (hw _ (List.mem_of_getElem? (i := 14) rfl))) (Or.inl (hw _ (List.mem_of_getElem? (i := 32) rfl))) (by decide) (t := (.array .int)) (t' := .int) (by decide) (by decide)))
  replace F_degree_a := F_degree_a.other W_20 (Or.inr (slot_ne (Or.inl (hw _ (List.mem_of_getElem? (i := 16) rfl))) (Or.inl (hw _ (List.mem_of_getElem? (i := 32) rfl))) (by decide) (t := (.array .int)) (t' := .int) (by decide) (by decide)))
  replace F_edges_a := F_edges_a.other W_20 (Or.inr (slot_ne (Or.inl (hw _ (List.mem_of_getElem? (i := 18) rfl))) (Or.inl (hw _ (List.mem_of_getElem? (i := 32) rfl))) (by decide) (t := (.array .int)) (t' := .int) (by decide) (by decide)))
  replace F_partner_a := F_partner_a.other W_20 (Or.inr (slot_ne (Or.inl (hw _ (List.mem_of_getElem? (i := 20) rfl))) (Or.inl (hw _ (List.mem_of_getElem? (i := 32) rfl))) (by decide) (t := (.array .int)) (t' := .int) (by decide) (by decide)))
  replace F_edgeLeft_a := F_edgeLeft_a.other W_20 (Or.inr (slot_ne (Or.inl (hw _ (List.mem_of_getElem? (i := 23) rfl))) (Or.inl (hw _ (List.mem_of_getElem? (i := 32) rfl))) (by decide) (t := (.array .boolean)) (t' := .int) (by decide) (by decide)))
  replace F_slotPlus1_a := F_slotPlus1_a.other W_20 (Or.inr (slot_ne (Or.inr (hw _ (List.mem_of_getElem? (i := 25) rfl))) (Or.inl (hw _ (List.mem_of_getElem? (i := 32) rfl))) (by decide) (t := (.array .int)) (t' := .int) (by decide) (by decide)))
  replace F_edgeCount_a := F_edgeCount_a.other W_20 (Or.inr (slot_ne (Or.inl (hw _ (List.mem_of_getElem? (i := 34) rfl))) (Or.inl (hw _ (List.mem_of_getElem? (i := 32) rfl))) (by decide) (t := .int) (t' := .int) (by decide) (by decide)))
  replace A_pl := A_pl.other W_20 (Ne.symm ne_a_pl)
  replace A_fi := A_fi.other W_20 (Ne.symm ne_a_fi)
  replace A_de := A_de.other W_20 (Ne.symm ne_a_de)
  replace A_ed := A_ed.other W_20 (Ne.symm ne_a_ed)
  replace A_pa := A_pa.other W_20 (Ne.symm ne_a_pa)
  replace A_el := A_el.other W_20 (Ne.symm ne_a_el)
  replace A_sp := A_sp.other W_20 (Ne.symm ne_a_sp)
  replace lt_a := Nat.lt_of_lt_of_le lt_a (Keep.of_wr W_20).1
  replace lt_pl := Nat.lt_of_lt_of_le lt_pl (Keep.of_wr W_20).1
  replace lt_fi := Nat.lt_of_lt_of_le lt_fi (Keep.of_wr W_20).1
  replace lt_de := Nat.lt_of_lt_of_le lt_de (Keep.of_wr W_20).1
  replace lt_ed := Nat.lt_of_lt_of_le lt_ed (Keep.of_wr W_20).1
  replace lt_pa := Nat.lt_of_lt_of_le lt_pa (Keep.of_wr W_20).1
  replace lt_el := Nat.lt_of_lt_of_le lt_el (Keep.of_wr W_20).1
  replace lt_sp := Nat.lt_of_lt_of_le lt_sp (Keep.of_wr W_20).1
  replace Zs := Nat.le_trans Zs (Keep.of_wr W_20).1
  replace Kp := Kp.wr W_20 (Or.inl (by simp))
  replace F_slots_a := F_slots_a.same W_20
  replace Nf := Fr.snoc X_20 Nf g_a
  refine Win.go st_20 ?_
  clear st_20 W_20 X_19 e_19
  show Win p.tables e below _ (T_20.setTop (mkF m 97 #[.val (.ref a), .val (.int p1), .unset] [(.int (0 : Int32))]))
  refine s_istoreN (pc' := 98) (l' := #[.val (.ref a), .val (.int p1), .val (.int (0 : Int32))]) X_20.here hx (hb hby d7_97) rfl rfl ?_
  refine s_aloadN (pc' := 99) X_20.here hx (hb hby d7_98) rfl rfl rfl ?_
  obtain ⟨T_21, X_21, e_21, st_21⟩ := getF X_20 hx hZ hown (host := "") (Or.inl (hw _ (List.mem_of_getElem? (i := 11) rfl))) Via.refl e_20 F_player_a (g := (mkF m 99 #[.val (.ref a), .val (.int p1), .val (.int (0 : Int32))] [(.ref a)])) rfl rfl (hb hby d7_99)
  refine Win.go st_21 ?_
  clear st_21 X_20 e_20
  show Win p.tables e below _ (T_21.setTop (mkF m 102 #[.val (.ref a), .val (.int p1), .val (.int (0 : Int32))] [(.ref pl)]))
  refine s_iloadN (pc' := 103) X_21.here hx (hb hby d7_102) rfl rfl ?_
  refine s_iloadN (pc' := 104) X_21.here hx (hb hby d7_103) rfl rfl ?_
  obtain ⟨cl_22, Ar_22, S_22, G_22⟩ := id A_pl
  have hb_22 : 0 ≤ ((0 : Int32)).toInt ∧ ((0 : Int32)).toInt < 16 := by decide
  obtain ⟨T_22, h_22, X_22, e_22, W_22, st_22⟩ := stI X_21 hx hZ e_21 Ar_22 (j := (0 : Int32)) (AF.inb S_22 hb_22) (g := (mkF m 104 #[.val (.ref a), .val (.int p1), .val (.int (0 : Int32))] [(.int p1), (.int (0 : Int32)), (.ref pl)])) rfl rfl (hb hby d7_104)
  have A_22 : AF Z h_22 pl .int 16 (updF f1 (0 : Int) p1) := AF.set Ar_22 S_22 G_22 W_22 hb_22
  replace E_a := E_a.wr W_22
  replace F_player_a := F_player_a.other W_22 (Or.inl ne_a_pl)
  replace F_first_a := F_first_a.other W_22 (Or.inl ne_a_pl)
  replace F_degree_a := F_degree_a.other W_22 (Or.inl ne_a_pl)
  replace F_edges_a := F_edges_a.other W_22 (Or.inl ne_a_pl)
  replace F_partner_a := F_partner_a.other W_22 (Or.inl ne_a_pl)
  replace F_edgeLeft_a := F_edgeLeft_a.other W_22 (Or.inl ne_a_pl)
  replace F_slotPlus1_a := F_slotPlus1_a.other W_22 (Or.inl ne_a_pl)
  replace F_slots_a := F_slots_a.other W_22 (Or.inl ne_a_pl)
  replace F_edgeCount_a := F_edgeCount_a.other W_22 (Or.inl ne_a_pl)
  replace A_fi := A_fi.other W_22 (Ne.symm ne_pl_fi)
  replace A_de := A_de.other W_22 (Ne.symm ne_pl_de)
  replace A_ed := A_ed.other W_22 (Ne.symm ne_pl_ed)
  replace A_pa := A_pa.other W_22 (Ne.symm ne_pl_pa)
  replace A_el := A_el.other W_22 (Ne.symm ne_pl_el)
  replace A_sp := A_sp.other W_22 (Ne.symm ne_pl_sp)
  replace lt_a := Nat.lt_of_lt_of_le lt_a (Keep.of_wr W_22).1
  replace lt_pl := Nat.lt_of_lt_of_le lt_pl (Keep.of_wr W_22).1
  replace lt_fi := Nat.lt_of_lt_of_le lt_fi (Keep.of_wr W_22).1
  replace lt_de := Nat.lt_of_lt_of_le lt_de (Keep.of_wr W_22).1
  replace lt_ed := Nat.lt_of_lt_of_le lt_ed (Keep.of_wr W_22).1
  replace lt_pa := Nat.lt_of_lt_of_le lt_pa (Keep.of_wr W_22).1
  replace lt_el := Nat.lt_of_lt_of_le lt_el (Keep.of_wr W_22).1
  replace lt_sp := Nat.lt_of_lt_of_le lt_sp (Keep.of_wr W_22).1
  replace Zs := Nat.le_trans Zs (Keep.of_wr W_22).1
  replace Kp := Kp.wr W_22 (Or.inl (by simp))
  replace A_pl := A_22
  replace Nf := Fr.snoc X_22 Nf g_pl
  refine Win.go st_22 ?_
  clear st_22 W_22 A_22 Ar_22 S_22 G_22 hb_22 X_21 e_21
  show Win p.tables e below _ (T_22.setTop (mkF m 105 #[.val (.ref a), .val (.int p1), .val (.int (0 : Int32))] []))
  refine s_aloadN (pc' := 106) X_22.here hx (hb hby d7_105) rfl rfl rfl ?_
  obtain ⟨T_23, X_23, e_23, st_23⟩ := getF X_22 hx hZ hown (host := "") (Or.inl (hw _ (List.mem_of_getElem? (i := 13) rfl))) Via.refl e_22 F_first_a (g := (mkF m 106 #[.val (.ref a), .val (.int p1), .val (.int (0 : Int32))] [(.ref a)])) rfl rfl (hb hby d7_106)
  refine Win.go st_23 ?_
  clear st_23 X_22 e_22
  show Win p.tables e below _ (T_23.setTop (mkF m 109 #[.val (.ref a), .val (.int p1), .val (.int (0 : Int32))] [(.ref fi)]))
  refine s_iloadN (pc' := 110) X_23.here hx (hb hby d7_109) rfl rfl ?_
  refine s_aloadN (pc' := 111) X_23.here hx (hb hby d7_110) rfl rfl rfl ?_
  obtain ⟨T_24, X_24, e_24, st_24⟩ := getF X_23 hx hZ hown (host := "") (Or.inl (hw _ (List.mem_of_getElem? (i := 33) rfl))) Via.refl e_23 F_edgeCount_a (g := (mkF m 111 #[.val (.ref a), .val (.int p1), .val (.int (0 : Int32))] [(.ref a), (.int (0 : Int32)), (.ref fi)])) rfl rfl (hb hby d7_111)
  refine Win.go st_24 ?_
  clear st_24 X_23 e_23
  show Win p.tables e below _ (T_24.setTop (mkF m 114 #[.val (.ref a), .val (.int p1), .val (.int (0 : Int32))] [(.int (0 : Int32)), (.int (0 : Int32)), (.ref fi)]))
  obtain ⟨cl_25, Ar_25, S_25, G_25⟩ := id A_fi
  have hb_25 : 0 ≤ ((0 : Int32)).toInt ∧ ((0 : Int32)).toInt < 16 := by decide
  obtain ⟨T_25, h_25, X_25, e_25, W_25, st_25⟩ := stI X_24 hx hZ e_24 Ar_25 (j := (0 : Int32)) (AF.inb S_25 hb_25) (g := (mkF m 114 #[.val (.ref a), .val (.int p1), .val (.int (0 : Int32))] [(.int (0 : Int32)), (.int (0 : Int32)), (.ref fi)])) rfl rfl (hb hby d7_114)
  have A_25 : AF Z h_25 fi .int 16 (updF f2 (0 : Int) (0 : Int32)) := AF.set Ar_25 S_25 G_25 W_25 hb_25
  replace E_a := E_a.wr W_25
  replace F_player_a := F_player_a.other W_25 (Or.inl ne_a_fi)
  replace F_first_a := F_first_a.other W_25 (Or.inl ne_a_fi)
  replace F_degree_a := F_degree_a.other W_25 (Or.inl ne_a_fi)
  replace F_edges_a := F_edges_a.other W_25 (Or.inl ne_a_fi)
  replace F_partner_a := F_partner_a.other W_25 (Or.inl ne_a_fi)
  replace F_edgeLeft_a := F_edgeLeft_a.other W_25 (Or.inl ne_a_fi)
  replace F_slotPlus1_a := F_slotPlus1_a.other W_25 (Or.inl ne_a_fi)
  replace F_slots_a := F_slots_a.other W_25 (Or.inl ne_a_fi)
  replace F_edgeCount_a := F_edgeCount_a.other W_25 (Or.inl ne_a_fi)
  replace A_de := A_de.other W_25 (Ne.symm ne_fi_de)
  replace A_ed := A_ed.other W_25 (Ne.symm ne_fi_ed)
  replace A_pa := A_pa.other W_25 (Ne.symm ne_fi_pa)
  replace A_el := A_el.other W_25 (Ne.symm ne_fi_el)
  replace A_sp := A_sp.other W_25 (Ne.symm ne_fi_sp)
  replace A_pl := A_pl.other W_25 ne_pl_fi
  replace lt_a := Nat.lt_of_lt_of_le lt_a (Keep.of_wr W_25).1
  replace lt_pl := Nat.lt_of_lt_of_le lt_pl (Keep.of_wr W_25).1
  replace lt_fi := Nat.lt_of_lt_of_le lt_fi (Keep.of_wr W_25).1
  replace lt_de := Nat.lt_of_lt_of_le lt_de (Keep.of_wr W_25).1
  replace lt_ed := Nat.lt_of_lt_of_le lt_ed (Keep.of_wr W_25).1
  replace lt_pa := Nat.lt_of_lt_of_le lt_pa (Keep.of_wr W_25).1
  replace lt_el := Nat.lt_of_lt_of_le lt_el (Keep.of_wr W_25).1
  replace lt_sp := Nat.lt_of_lt_of_le lt_sp (Keep.of_wr W_25).1
  replace Zs := Nat.le_trans Zs (Keep.of_wr W_25).1
  replace Kp := Kp.wr W_25 (Or.inl (by simp))
  replace A_fi := A_25
  replace Nf := Fr.snoc X_25 Nf g_fi
  refine Win.go st_25 ?_
  clear st_25 W_25 A_25 Ar_25 S_25 G_25 hb_25 X_24 e_24
  show Win p.tables e below _ (T_25.setTop (mkF m 115 #[.val (.ref a), .val (.int p1), .val (.int (0 : Int32))] []))
  refine s_aloadN (pc' := 116) X_25.here hx (hb hby d7_115) rfl rfl rfl ?_
  obtain ⟨T_26, X_26, e_26, st_26⟩ := getF X_25 hx hZ hown (host := "") (Or.inl (hw _ (List.mem_of_getElem? (i := 15) rfl))) Via.refl e_25 F_degree_a (g := (mkF m 116 #[.val (.ref a), .val (.int p1), .val (.int (0 : Int32))] [(.ref a)])) rfl rfl (hb hby d7_116)
  refine Win.go st_26 ?_
  clear st_26 X_25 e_25
  show Win p.tables e below _ (T_26.setTop (mkF m 119 #[.val (.ref a), .val (.int p1), .val (.int (0 : Int32))] [(.ref de)]))
  refine s_iloadN (pc' := 120) X_26.here hx (hb hby d7_119) rfl rfl ?_
  refine s_iconst (pc' := 121) (z := (0 : Int32)) X_26.here hx (hb hby d7_120) rfl rfl ?_
  obtain ⟨cl_27, Ar_27, S_27, G_27⟩ := id A_de
  have hb_27 : 0 ≤ ((0 : Int32)).toInt ∧ ((0 : Int32)).toInt < 16 := by decide
  obtain ⟨T_27, h_27, X_27, e_27, W_27, st_27⟩ := stI X_26 hx hZ e_26 Ar_27 (j := (0 : Int32)) (AF.inb S_27 hb_27) (g := (mkF m 121 #[.val (.ref a), .val (.int p1), .val (.int (0 : Int32))] [(.int (0 : Int32)), (.int (0 : Int32)), (.ref de)])) rfl rfl (hb hby d7_121)
  have A_27 : AF Z h_27 de .int 16 (updF f3 (0 : Int) (0 : Int32)) := AF.set Ar_27 S_27 G_27 W_27 hb_27
  replace E_a := E_a.wr W_27
  replace F_player_a := F_player_a.other W_27 (Or.inl ne_a_de)
  replace F_first_a := F_first_a.other W_27 (Or.inl ne_a_de)
  replace F_degree_a := F_degree_a.other W_27 (Or.inl ne_a_de)
  replace F_edges_a := F_edges_a.other W_27 (Or.inl ne_a_de)
  replace F_partner_a := F_partner_a.other W_27 (Or.inl ne_a_de)
  replace F_edgeLeft_a := F_edgeLeft_a.other W_27 (Or.inl ne_a_de)
  replace F_slotPlus1_a := F_slotPlus1_a.other W_27 (Or.inl ne_a_de)
  replace F_slots_a := F_slots_a.other W_27 (Or.inl ne_a_de)
  replace F_edgeCount_a := F_edgeCount_a.other W_27 (Or.inl ne_a_de)
  replace A_ed := A_ed.other W_27 (Ne.symm ne_de_ed)
  replace A_pa := A_pa.other W_27 (Ne.symm ne_de_pa)
  replace A_el := A_el.other W_27 (Ne.symm ne_de_el)
  replace A_sp := A_sp.other W_27 (Ne.symm ne_de_sp)
  replace A_pl := A_pl.other W_27 ne_pl_de
  replace A_fi := A_fi.other W_27 ne_fi_de
  replace lt_a := Nat.lt_of_lt_of_le lt_a (Keep.of_wr W_27).1
  replace lt_pl := Nat.lt_of_lt_of_le lt_pl (Keep.of_wr W_27).1
  replace lt_fi := Nat.lt_of_lt_of_le lt_fi (Keep.of_wr W_27).1
  replace lt_de := Nat.lt_of_lt_of_le lt_de (Keep.of_wr W_27).1
  replace lt_ed := Nat.lt_of_lt_of_le lt_ed (Keep.of_wr W_27).1
  replace lt_pa := Nat.lt_of_lt_of_le lt_pa (Keep.of_wr W_27).1
  replace lt_el := Nat.lt_of_lt_of_le lt_el (Keep.of_wr W_27).1
  replace lt_sp := Nat.lt_of_lt_of_le lt_sp (Keep.of_wr W_27).1
  replace Zs := Nat.le_trans Zs (Keep.of_wr W_27).1
  replace Kp := Kp.wr W_27 (Or.inl (by simp))
  replace A_de := A_27
  replace Nf := Fr.snoc X_27 Nf g_de
  refine Win.go st_27 ?_
  clear st_27 W_27 A_27 Ar_27 S_27 G_27 hb_27 X_26 e_26
  show Win p.tables e below _ (T_27.setTop (mkF m 122 #[.val (.ref a), .val (.int p1), .val (.int (0 : Int32))] []))
  refine s_aloadN (pc' := 123) X_27.here hx (hb hby d7_122) rfl rfl rfl ?_
  obtain ⟨T_28, X_28, e_28, st_28⟩ := getF X_27 hx hZ hown (host := "") (Or.inl (hw _ (List.mem_of_getElem? (i := 19) rfl))) Via.refl e_27 F_partner_a (g := (mkF m 123 #[.val (.ref a), .val (.int p1), .val (.int (0 : Int32))] [(.ref a)])) rfl rfl (hb hby d7_123)
  refine Win.go st_28 ?_
  clear st_28 X_27 e_27
  show Win p.tables e below _ (T_28.setTop (mkF m 126 #[.val (.ref a), .val (.int p1), .val (.int (0 : Int32))] [(.ref pa)]))
  refine s_iloadN (pc' := 127) X_28.here hx (hb hby d7_126) rfl rfl ?_
  refine s_iconst (pc' := 128) (z := (0 : Int32)) X_28.here hx (hb hby d7_127) rfl rfl ?_
  obtain ⟨cl_29, Ar_29, S_29, G_29⟩ := id A_pa
  have hb_29 : 0 ≤ ((0 : Int32)).toInt ∧ ((0 : Int32)).toInt < 16 := by decide
  obtain ⟨T_29, h_29, X_29, e_29, W_29, st_29⟩ := stI X_28 hx hZ e_28 Ar_29 (j := (0 : Int32)) (AF.inb S_29 hb_29) (g := (mkF m 128 #[.val (.ref a), .val (.int p1), .val (.int (0 : Int32))] [(.int (0 : Int32)), (.int (0 : Int32)), (.ref pa)])) rfl rfl (hb hby d7_128)
  have A_29 : AF Z h_29 pa .int 16 (updF f5 (0 : Int) (0 : Int32)) := AF.set Ar_29 S_29 G_29 W_29 hb_29
  replace E_a := E_a.wr W_29
  replace F_player_a := F_player_a.other W_29 (Or.inl ne_a_pa)
  replace F_first_a := F_first_a.other W_29 (Or.inl ne_a_pa)
  replace F_degree_a := F_degree_a.other W_29 (Or.inl ne_a_pa)
  replace F_edges_a := F_edges_a.other W_29 (Or.inl ne_a_pa)
  replace F_partner_a := F_partner_a.other W_29 (Or.inl ne_a_pa)
  replace F_edgeLeft_a := F_edgeLeft_a.other W_29 (Or.inl ne_a_pa)
  replace F_slotPlus1_a := F_slotPlus1_a.other W_29 (Or.inl ne_a_pa)
  replace F_slots_a := F_slots_a.other W_29 (Or.inl ne_a_pa)
  replace F_edgeCount_a := F_edgeCount_a.other W_29 (Or.inl ne_a_pa)
  replace A_ed := A_ed.other W_29 ne_ed_pa
  replace A_el := A_el.other W_29 (Ne.symm ne_pa_el)
  replace A_sp := A_sp.other W_29 (Ne.symm ne_pa_sp)
  replace A_pl := A_pl.other W_29 ne_pl_pa
  replace A_fi := A_fi.other W_29 ne_fi_pa
  replace A_de := A_de.other W_29 ne_de_pa
  replace lt_a := Nat.lt_of_lt_of_le lt_a (Keep.of_wr W_29).1
  replace lt_pl := Nat.lt_of_lt_of_le lt_pl (Keep.of_wr W_29).1
  replace lt_fi := Nat.lt_of_lt_of_le lt_fi (Keep.of_wr W_29).1
  replace lt_de := Nat.lt_of_lt_of_le lt_de (Keep.of_wr W_29).1
  replace lt_ed := Nat.lt_of_lt_of_le lt_ed (Keep.of_wr W_29).1
  replace lt_pa := Nat.lt_of_lt_of_le lt_pa (Keep.of_wr W_29).1
  replace lt_el := Nat.lt_of_lt_of_le lt_el (Keep.of_wr W_29).1
  replace lt_sp := Nat.lt_of_lt_of_le lt_sp (Keep.of_wr W_29).1
  replace Zs := Nat.le_trans Zs (Keep.of_wr W_29).1
  replace Kp := Kp.wr W_29 (Or.inl (by simp))
  replace A_pa := A_29
  replace Nf := Fr.snoc X_29 Nf g_pa
  refine Win.go st_29 ?_
  clear st_29 W_29 A_29 Ar_29 S_29 G_29 hb_29 X_28 e_28
  show Win p.tables e below _ (T_29.setTop (mkF m 129 #[.val (.ref a), .val (.int p1), .val (.int (0 : Int32))] []))
  refine s_aloadN (pc' := 130) X_29.here hx (hb hby d7_129) rfl rfl rfl ?_
  obtain ⟨T_30, X_30, e_30, st_30⟩ := getF X_29 hx hZ hown (host := "") (Or.inl (hw _ (List.mem_of_getElem? (i := 22) rfl))) Via.refl e_29 F_edgeLeft_a (g := (mkF m 130 #[.val (.ref a), .val (.int p1), .val (.int (0 : Int32))] [(.ref a)])) rfl rfl (hb hby d7_130)
  refine Win.go st_30 ?_
  clear st_30 X_29 e_29
  show Win p.tables e below _ (T_30.setTop (mkF m 133 #[.val (.ref a), .val (.int p1), .val (.int (0 : Int32))] [(.ref el)]))
  refine s_iloadN (pc' := 134) X_30.here hx (hb hby d7_133) rfl rfl ?_
  refine s_iconst (pc' := 135) (z := (0 : Int32)) X_30.here hx (hb hby d7_134) rfl rfl ?_
  obtain ⟨cl_31, Ar_31, S_31, G_31⟩ := id A_el
  have hb_31 : 0 ≤ ((0 : Int32)).toInt ∧ ((0 : Int32)).toInt < 16 := by decide
  obtain ⟨T_31, h_31, X_31, e_31, W_31, st_31⟩ := stZ X_30 hx hZ e_30 Ar_31 (j := (0 : Int32)) (AF.inb S_31 hb_31) (g := (mkF m 135 #[.val (.ref a), .val (.int p1), .val (.int (0 : Int32))] [(.int (0 : Int32)), (.int (0 : Int32)), (.ref el)])) rfl rfl (hb hby d7_135)
  have A_31 : AF Z h_31 el .boolean 16 (updF f6 (0 : Int) (0 : Int32)) := AF.set Ar_31 S_31 G_31 W_31 hb_31
  replace E_a := E_a.wr W_31
  replace F_player_a := F_player_a.other W_31 (Or.inl ne_a_el)
  replace F_first_a := F_first_a.other W_31 (Or.inl ne_a_el)
  replace F_degree_a := F_degree_a.other W_31 (Or.inl ne_a_el)
  replace F_edges_a := F_edges_a.other W_31 (Or.inl ne_a_el)
  replace F_partner_a := F_partner_a.other W_31 (Or.inl ne_a_el)
  replace F_edgeLeft_a := F_edgeLeft_a.other W_31 (Or.inl ne_a_el)
  replace F_slotPlus1_a := F_slotPlus1_a.other W_31 (Or.inl ne_a_el)
  replace F_slots_a := F_slots_a.other W_31 (Or.inl ne_a_el)
  replace F_edgeCount_a := F_edgeCount_a.other W_31 (Or.inl ne_a_el)
  replace A_ed := A_ed.other W_31 ne_ed_el
  replace A_sp := A_sp.other W_31 (Ne.symm ne_el_sp)
  replace A_pl := A_pl.other W_31 ne_pl_el
  replace A_fi := A_fi.other W_31 ne_fi_el
  replace A_de := A_de.other W_31 ne_de_el
  replace A_pa := A_pa.other W_31 ne_pa_el
  replace lt_a := Nat.lt_of_lt_of_le lt_a (Keep.of_wr W_31).1
  replace lt_pl := Nat.lt_of_lt_of_le lt_pl (Keep.of_wr W_31).1
  replace lt_fi := Nat.lt_of_lt_of_le lt_fi (Keep.of_wr W_31).1
  replace lt_de := Nat.lt_of_lt_of_le lt_de (Keep.of_wr W_31).1
  replace lt_ed := Nat.lt_of_lt_of_le lt_ed (Keep.of_wr W_31).1
  replace lt_pa := Nat.lt_of_lt_of_le lt_pa (Keep.of_wr W_31).1
  replace lt_el := Nat.lt_of_lt_of_le lt_el (Keep.of_wr W_31).1
  replace lt_sp := Nat.lt_of_lt_of_le lt_sp (Keep.of_wr W_31).1
  replace Zs := Nat.le_trans Zs (Keep.of_wr W_31).1
  replace Kp := Kp.wr W_31 (Or.inl (by simp))
  replace A_el := A_31
  replace Nf := Fr.snoc X_31 Nf g_el
  refine Win.go st_31 ?_
  clear st_31 W_31 A_31 Ar_31 S_31 G_31 hb_31 X_30 e_30
  show Win p.tables e below _ (T_31.setTop (mkF m 136 #[.val (.ref a), .val (.int p1), .val (.int (0 : Int32))] []))
  refine s_aloadN (pc' := 137) X_31.here hx (hb hby d7_136) rfl rfl rfl ?_
  obtain ⟨T_32, X_32, e_32, st_32⟩ := getF X_31 hx hZ hown (host := "") (Or.inl (hw _ (List.mem_of_getElem? (i := 24) rfl))) Via.refl e_31 F_slotPlus1_a (g := (mkF m 137 #[.val (.ref a), .val (.int p1), .val (.int (0 : Int32))] [(.ref a)])) rfl rfl (hb hby d7_137)
  refine Win.go st_32 ?_
  clear st_32 X_31 e_31
  show Win p.tables e below _ (T_32.setTop (mkF m 140 #[.val (.ref a), .val (.int p1), .val (.int (0 : Int32))] [(.ref sp)]))
  refine s_iloadN (pc' := 141) X_32.here hx (hb hby d7_140) rfl rfl ?_
  refine s_iloadN (pc' := 142) X_32.here hx (hb hby d7_141) rfl rfl ?_
  refine s_iconst (pc' := 143) (z := (1 : Int32)) X_32.here hx (hb hby d7_142) rfl rfl ?_
  refine Win.go (fun _ k => XS.iadd X_32.here hx rfl (hb hby d7_143) rfl k) ?_
  show Win p.tables e below _ (T_32.setTop (mkF m 144 #[.val (.ref a), .val (.int p1), .val (.int (0 : Int32))] [(.int (1 : Int32)), (.int p1), (.ref sp)]))
  obtain ⟨cl_33, Ar_33, S_33, G_33⟩ := id A_sp
  have hb_33 : 0 ≤ (p1).toInt ∧ (p1).toInt < 8 := by omega
  obtain ⟨T_33, h_33, X_33, e_33, W_33, st_33⟩ := stI X_32 hx hZ e_32 Ar_33 (j := p1) (AF.inb S_33 hb_33) (g := (mkF m 144 #[.val (.ref a), .val (.int p1), .val (.int (0 : Int32))] [(.int (1 : Int32)), (.int p1), (.ref sp)])) rfl rfl (hb hby d7_144)
  have A_33 : AF Z h_33 sp .int 8 (updF g (p1).toInt (1 : Int32)) := AF.set Ar_33 S_33 G_33 W_33 hb_33
  replace E_a := E_a.wr W_33
  replace F_player_a := F_player_a.other W_33 (Or.inl ne_a_sp)
  replace F_first_a := F_first_a.other W_33 (Or.inl ne_a_sp)
  replace F_degree_a := F_degree_a.other W_33 (Or.inl ne_a_sp)
  replace F_edges_a := F_edges_a.other W_33 (Or.inl ne_a_sp)
  replace F_partner_a := F_partner_a.other W_33 (Or.inl ne_a_sp)
  replace F_edgeLeft_a := F_edgeLeft_a.other W_33 (Or.inl ne_a_sp)
  replace F_slotPlus1_a := F_slotPlus1_a.other W_33 (Or.inl ne_a_sp)
  replace F_slots_a := F_slots_a.other W_33 (Or.inl ne_a_sp)
  replace F_edgeCount_a := F_edgeCount_a.other W_33 (Or.inl ne_a_sp)
  replace A_ed := A_ed.other W_33 ne_ed_sp
  replace A_pl := A_pl.other W_33 ne_pl_sp
  replace A_fi := A_fi.other W_33 ne_fi_sp
  replace A_de := A_de.other W_33 ne_de_sp
  replace A_pa := A_pa.other W_33 ne_pa_sp
  replace A_el := A_el.other W_33 ne_el_sp
  replace lt_a := Nat.lt_of_lt_of_le lt_a (Keep.of_wr W_33).1
  replace lt_pl := Nat.lt_of_lt_of_le lt_pl (Keep.of_wr W_33).1
  replace lt_fi := Nat.lt_of_lt_of_le lt_fi (Keep.of_wr W_33).1
  replace lt_de := Nat.lt_of_lt_of_le lt_de (Keep.of_wr W_33).1
  replace lt_ed := Nat.lt_of_lt_of_le lt_ed (Keep.of_wr W_33).1
  replace lt_pa := Nat.lt_of_lt_of_le lt_pa (Keep.of_wr W_33).1
  replace lt_el := Nat.lt_of_lt_of_le lt_el (Keep.of_wr W_33).1
  replace lt_sp := Nat.lt_of_lt_of_le lt_sp (Keep.of_wr W_33).1
  replace Zs := Nat.le_trans Zs (Keep.of_wr W_33).1
  replace Kp := Kp.wr W_33 (Or.inl (by simp))
  replace A_sp := A_33
  replace Nf := Fr.snoc X_33 Nf g_sp
  refine Win.go st_33 ?_
  clear st_33 W_33 A_33 Ar_33 S_33 G_33 hb_33 X_32 e_32
  show Win p.tables e below _ (T_33.setTop (mkF m 145 #[.val (.ref a), .val (.int p1), .val (.int (0 : Int32))] []))
  refine s_iloadN (pc' := 146) X_33.here hx (hb hby d7_145) rfl rfl ?_
  refine winI X_33 hx hlk e_33 Bd.returns (hb hby d7_146) (by decide) (by decide) ?_
  exact ⟨Nf, Kp, F_player_a, F_first_a, F_degree_a, F_edges_a, F_partner_a, F_edgeLeft_a, F_slotPlus1_a, F_slots_a, F_edgeCount_a, A_pl, A_fi, A_de, A_pa, A_el, A_sp, rfl⟩
theorem d6_0 : decode prog_53_method_2_code 0 = .ok (.aload_n 0, 1) := by decide +kernel
theorem d6_1 : decode prog_53_method_2_code 1 = .ok (.getfield 29, 3) := by decide +kernel
theorem d6_4 : decode prog_53_method_2_code 4 = .ok (.iload_n 1, 1) := by decide +kernel
theorem d6_5 : decode prog_53_method_2_code 5 = .ok (.iaload, 1) := by decide +kernel
theorem d6_6 : decode prog_53_method_2_code 6 = .ok (.iconst 1, 1) := by decide +kernel
theorem d6_7 : decode prog_53_method_2_code 7 = .ok (.isub, 1) := by decide +kernel
theorem d6_8 : decode prog_53_method_2_code 8 = .ok (.istore_n 3, 1) := by decide +kernel
theorem d6_9 : decode prog_53_method_2_code 9 = .ok (.iload_n 3, 1) := by decide +kernel
theorem d6_10 : decode prog_53_method_2_code 10 = .ok (.ifCond .ge 12, 3) := by decide +kernel
theorem d6_13 : decode prog_53_method_2_code 13 = .ok (.aload_n 0, 1) := by decide +kernel
theorem d6_14 : decode prog_53_method_2_code 14 = .ok (.iload_n 1, 1) := by decide +kernel
theorem d6_15 : decode prog_53_method_2_code 15 = .ok (.invokevirtual 32, 3) := by decide +kernel
theorem d6_18 : decode prog_53_method_2_code 18 = .ok (.istore_n 3, 1) := by decide +kernel
theorem d6_19 : decode prog_53_method_2_code 19 = .ok (.goto 42, 3) := by decide +kernel
theorem d6_61 : decode prog_53_method_2_code 61 = .ok (.aload_n 0, 1) := by decide +kernel
theorem d6_62 : decode prog_53_method_2_code 62 = .ok (.getfield 40, 3) := by decide +kernel
theorem d6_65 : decode prog_53_method_2_code 65 = .ok (.aload_n 0, 1) := by decide +kernel
theorem d6_66 : decode prog_53_method_2_code 66 = .ok (.getfield 19, 3) := by decide +kernel
theorem d6_69 : decode prog_53_method_2_code 69 = .ok (.arraylength, 1) := by decide +kernel
theorem d6_70 : decode prog_53_method_2_code 70 = .ok (.if_icmp .ne 27, 3) := by decide +kernel
theorem d6_97 : decode prog_53_method_2_code 97 = .ok (.aload_n 0, 1) := by decide +kernel
theorem d6_98 : decode prog_53_method_2_code 98 = .ok (.getfield 19, 3) := by decide +kernel
theorem d6_101 : decode prog_53_method_2_code 101 = .ok (.aload_n 0, 1) := by decide +kernel
theorem d6_102 : decode prog_53_method_2_code 102 = .ok (.dup, 1) := by decide +kernel
theorem d6_103 : decode prog_53_method_2_code 103 = .ok (.getfield 40, 3) := by decide +kernel
theorem d6_106 : decode prog_53_method_2_code 106 = .ok (.dup_x1, 1) := by decide +kernel
theorem d6_107 : decode prog_53_method_2_code 107 = .ok (.iconst 1, 1) := by decide +kernel
theorem d6_108 : decode prog_53_method_2_code 108 = .ok (.iadd, 1) := by decide +kernel
theorem d6_109 : decode prog_53_method_2_code 109 = .ok (.putfield 40, 3) := by decide +kernel
theorem d6_112 : decode prog_53_method_2_code 112 = .ok (.iload_n 2, 1) := by decide +kernel
theorem d6_113 : decode prog_53_method_2_code 113 = .ok (.iastore, 1) := by decide +kernel
theorem d6_114 : decode prog_53_method_2_code 114 = .ok (.aload_n 0, 1) := by decide +kernel
theorem d6_115 : decode prog_53_method_2_code 115 = .ok (.getfield 16, 3) := by decide +kernel
theorem d6_118 : decode prog_53_method_2_code 118 = .ok (.iload_n 3, 1) := by decide +kernel
theorem d6_119 : decode prog_53_method_2_code 119 = .ok (.dup2, 1) := by decide +kernel
theorem d6_120 : decode prog_53_method_2_code 120 = .ok (.iaload, 1) := by decide +kernel
theorem d6_121 : decode prog_53_method_2_code 121 = .ok (.iconst 1, 1) := by decide +kernel
theorem d6_122 : decode prog_53_method_2_code 122 = .ok (.iadd, 1) := by decide +kernel
theorem d6_123 : decode prog_53_method_2_code 123 = .ok (.iastore, 1) := by decide +kernel
theorem d6_124 : decode prog_53_method_2_code 124 = .ok (.return_, 1) := by decide +kernel
theorem pd_0 : parseMethodDescriptor "(I)I" = some ⟨[.int], some .int⟩ := by decide +kernel
theorem ef_6_0 (m : MethodId) (a : Addr) (p1 : Int32) (p2 : Int32) : entryFrame m #[(.ref a), (.int p1), (.int p2)] 4 = mkF m 0 #[.val (.ref a), .val (.int p1), .val (.int p2), .unset] [] := by first | (simp [entryFrame, mkF, argsToLocals, Value.category]; done) | rfl
def Q6_0 (Z : State) (a : Addr) (p1 : Int32) (p2 : Int32) (pl : Addr) (fi : Addr) (de : Addr) (ed : Addr) (pa : Addr) (el : Addr) (sp : Addr) (f1 : Int → Int32) (f2 : Int → Int32) (f3 : Int → Int32) (f4 : Int → Int32) (f5 : Int → Int32) (f6 : Int → Int32) (g : Int → Int32) (h0 : Heap) (n0 : Nat) (v : Option Value) (h : Heap) (L : List Loc) : Prop := Fr n0 L ∧ Keep h0 h [a, pl, fi, de, ed, pa, el, sp] ∧ Fld Z h a "com/example/nearstable/nearstable/maximal/Players" "player" "[I" (.ref pl) ∧ Fld Z h a "com/example/nearstable/nearstable/maximal/Players" "first" "[I" (.ref fi) ∧ Fld Z h a "com/example/nearstable/nearstable/maximal/Players" "degree" "[I" (.ref de) ∧ Fld Z h a "com/example/nearstable/nearstable/maximal/Players" "edges" "[I" (.ref ed) ∧ Fld Z h a "com/example/nearstable/nearstable/maximal/Players" "partner" "[I" (.ref pa) ∧ Fld Z h a "com/example/nearstable/nearstable/maximal/Players" "edgeLeft" "[Z" (.ref el) ∧ Fld Z h a "com/example/nearstable/nearstable/maximal/Players" "slotPlus1" "[I" (.ref sp) ∧ Fld Z h a "com/example/nearstable/nearstable/maximal/Players" "slots" "I" (.int (1 : Int32)) ∧ Fld Z h a "com/example/nearstable/nearstable/maximal/Players" "edgeCount" "I" (.int (1 : Int32)) ∧ AF Z h pl .int 16 (updF f1 (0 : Int) p1) ∧ AF Z h fi .int 16 (updF f2 (0 : Int) (0 : Int32)) ∧ AF Z h de .int 16 (updF (updF f3 (0 : Int) (0 : Int32)) (0 : Int) ((updF f3 (0 : Int) (0 : Int32)) (0 : Int) + (1 : Int32))) ∧ AF Z h ed .int 16 (updF f4 (0 : Int) p2) ∧ AF Z h pa .int 16 (updF f5 (0 : Int) (0 : Int32)) ∧ AF Z h el .boolean 16 (updF f6 (0 : Int) (0 : Int32)) ∧ AF Z h sp .int 8 (updF g (p1).toInt (1 : Int32)) ∧ v = none
set_option maxRecDepth 65536 in
set_option maxHeartbeats 40000000 in
theorem rm6_0 (l : Launch) (Z : State) (a0 : Array Value) (hw : ∀ d ∈ tables_1, d.before a0 Z = true) (ws : List Jvm.Cond) (a : Addr) (p1 : Int32) (p2 : Int32) (pl : Addr) (fi : Addr) (de : Addr) (ed : Addr) (pa : Addr) (el : Addr) (sp : Addr) (f1 : Int → Int32) (f2 : Int → Int32) (f3 : Int → Int32) (f4 : Int → Int32) (f5 : Int → Int32) (f6 : Int → Int32) (g : Int → Int32) (h0 : Heap) (n0 : Nat) (Zs : n0 ≤ h0.size) (E_a : Exa Z h0 a "com/example/nearstable/nearstable/maximal/Players") (F_player_a : Fld Z h0 a "com/example/nearstable/nearstable/maximal/Players" "player" "[I" (.ref pl)) (F_first_a : Fld Z h0 a "com/example/nearstable/nearstable/maximal/Players" "first" "[I" (.ref fi)) (F_degree_a : Fld Z h0 a "com/example/nearstable/nearstable/maximal/Players" "degree" "[I" (.ref de)) (F_edges_a : Fld Z h0 a "com/example/nearstable/nearstable/maximal/Players" "edges" "[I" (.ref ed)) (F_partner_a : Fld Z h0 a "com/example/nearstable/nearstable/maximal/Players" "partner" "[I" (.ref pa)) (F_edgeLeft_a : Fld Z h0 a "com/example/nearstable/nearstable/maximal/Players" "edgeLeft" "[Z" (.ref el)) (F_slotPlus1_a : Fld Z h0 a "com/example/nearstable/nearstable/maximal/Players" "slotPlus1" "[I" (.ref sp)) (F_slots_a : Fld Z h0 a "com/example/nearstable/nearstable/maximal/Players" "slots" "I" (.int (0 : Int32))) (F_edgeCount_a : Fld Z h0 a "com/example/nearstable/nearstable/maximal/Players" "edgeCount" "I" (.int (0 : Int32))) (A_pl : AF Z h0 pl .int 16 f1) (A_fi : AF Z h0 fi .int 16 f2) (A_de : AF Z h0 de .int 16 f3) (A_ed : AF Z h0 ed .int 16 f4) (A_pa : AF Z h0 pa .int 16 f5) (A_el : AF Z h0 el .boolean 16 f6) (A_sp : AF Z h0 sp .int 8 g) (g_a : n0 ≤ a) (g_pl : n0 ≤ pl) (g_fi : n0 ≤ fi) (g_de : n0 ≤ de) (g_ed : n0 ≤ ed) (g_pa : n0 ≤ pa) (g_el : n0 ≤ el) (g_sp : n0 ≤ sp) (ne_a_pl : a ≠ pl) (ne_a_fi : a ≠ fi) (ne_a_de : a ≠ de) (ne_a_ed : a ≠ ed) (ne_a_pa : a ≠ pa) (ne_a_el : a ≠ el) (ne_a_sp : a ≠ sp) (ne_pl_fi : pl ≠ fi) (ne_pl_de : pl ≠ de) (ne_pl_ed : pl ≠ ed) (ne_pl_pa : pl ≠ pa) (ne_pl_el : pl ≠ el) (ne_pl_sp : pl ≠ sp) (ne_fi_de : fi ≠ de) (ne_fi_ed : fi ≠ ed) (ne_fi_pa : fi ≠ pa) (ne_fi_el : fi ≠ el) (ne_fi_sp : fi ≠ sp) (ne_de_ed : de ≠ ed) (ne_de_pa : de ≠ pa) (ne_de_el : de ≠ el) (ne_de_sp : de ≠ sp) (ne_ed_pa : ed ≠ pa) (ne_ed_el : ed ≠ el) (ne_ed_sp : ed ≠ sp) (ne_pa_el : pa ≠ el) (ne_pa_sp : pa ≠ sp) (ne_el_sp : el ≠ sp) (hbd : 0 ≤ p1.toInt ∧ p1.toInt < 8) (hg : g p1.toInt = 0) :
    MetFree l (⟨"com/example/nearstable/nearstable/maximal/Players", "add", "(II)V"⟩ : MethodName) (head1 (Jvm.Cond.code (⟨"com/example/nearstable/nearstable/maximal/Players", "add", "(II)V"⟩ : MethodName) prog_53_method_2_code 4 none :: ws) ({ frames := 1, cells := 0, slots := 0, locals := 14 } : Room)) (fun as' U => as' = #[(.ref a), (.int p1), (.int p2)] ∧ Z.Warmed39 U.vm ∧ U.heap = h0) (fun _ _ _ _ _ => True) (fun _ U o U' => ∃ v L, o = .returned v ∧ Q6_0 Z a p1 p2 pl fi de ed pa el sp f1 f2 f3 f4 f5 f6 g h0 n0 v U'.heap L ∧ FrameEnd U o U' L ({ frames := 1, cells := 0, slots := 0, locals := 14 } : Room).cells ({ frames := 1, cells := 0, slots := 0, locals := 14 } : Room).slots) := by
  refine MetFree.of_bodySF (plainFor_of_name pn_1) hisR ?_
  intro p e s m args below meth c s₁ Bd hml0 hP hK
  obtain ⟨rfl, hZ, hh⟩ := hP
  have hx := Bd.exec
  have hby := Bd.bytes
  have hml : c.maxLocals = 4 := hml0
  have hown : s.vm.findClass "com/example/nearstable/nearstable/maximal/Players" = some m.cls := findClass_of_methodNamed Bd.named
  have hnm := (name_of_methodNamed Bd.named Bd.method).1
  have hlk : meth.locks = false := Bd.notSynchronized
  have X0 : Stand p l e ({ frames := 1, cells := 0, slots := 0, locals := 14 } : Room) s m #[(.ref a), (.int p1), (.int p2)] below meth c s₁ [] 0 0 := Stand.of_body Bd
  have e0 : s₁.heap = h0 := by rw [← hh, Bd.state]; rfl
  have Nf := Fr.nil n0
  refine (?_ : Win p.tables e below (PostQ s (Q6_0 Z a p1 p2 pl fi de ed pa el sp f1 f2 f3 f4 f5 f6 g h0 n0) ({ frames := 1, cells := 0, slots := 0, locals := 14 } : Room).cells ({ frames := 1, cells := 0, slots := 0, locals := 14 } : Room).slots) (s₁.setTop (entryFrame m #[(.ref a), (.int p1), (.int p2)] 4)))
  rw [ef_6_0]
  have Kp : Keep h0 h0 [a, pl, fi, de, ed, pa, el, sp] := Keep.refl h0 _
  have lt_a : a < h0.size := E_a.lt
  have lt_pl : pl < h0.size := A_pl.lt
  have lt_fi : fi < h0.size := A_fi.lt
  have lt_de : de < h0.size := A_de.lt
  have lt_ed : ed < h0.size := A_ed.lt
  have lt_pa : pa < h0.size := A_pa.lt
  have lt_el : el < h0.size := A_el.lt
  have lt_sp : sp < h0.size := A_sp.lt
  show Win p.tables e below _ (s₁.setTop (mkF m 0 #[.val (.ref a), .val (.int p1), .val (.int p2), .unset] []))
  refine s_aloadN (pc' := 1) X0.here hx (hb hby d6_0) rfl rfl rfl ?_
  obtain ⟨T_34, X_34, e_34, st_34⟩ := getF X0 hx hZ hown (host := "") (Or.inl (hw _ (List.mem_of_getElem? (i := 24) rfl))) Via.refl e0 F_slotPlus1_a (g := (mkF m 1 #[.val (.ref a), .val (.int p1), .val (.int p2), .unset] [(.ref a)])) rfl rfl (hb hby d6_1)
  refine Win.go st_34 ?_
  clear st_34 X0 e0
  show Win p.tables e below _ (T_34.setTop (mkF m 4 #[.val (.ref a), .val (.int p1), .val (.int p2), .unset] [(.ref sp)]))
  refine s_iloadN (pc' := 5) X_34.here hx (hb hby d6_4) rfl rfl ?_
  obtain ⟨cl_35, Ar_35, S_35, G_35⟩ := id A_sp
  have hb_35 : 0 ≤ (p1).toInt ∧ (p1).toInt < 8 := by omega
  refine Win.go (fun _ k => X_34.iaload hx (j := p1) (v := (.int (g (p1).toInt))) (by rw [e_34]; exact Ar_35.1) (State.isArrayOf_alike hZ.alike Ar_35.2.1) Ar_35.2.2 (AF.inb S_35 hb_35) (G_35 _ hb_35.1 hb_35.2) (g := (mkF m 5 #[.val (.ref a), .val (.int p1), .val (.int p2), .unset] [(.int p1), (.ref sp)])) rfl rfl (hb hby d6_5) _ k) ?_
  show Win p.tables e below _ (T_34.setTop (mkF m 6 #[.val (.ref a), .val (.int p1), .val (.int p2), .unset] [(.int (g (p1).toInt))]))
  clear Ar_35 S_35 G_35 hb_35
  refine s_iconst (pc' := 7) (z := (1 : Int32)) X_34.here hx (hb hby d6_6) rfl rfl ?_
  refine s_isub (pc' := 8) X_34.here hx (hb hby d6_7) rfl ?_
  refine s_istoreN (pc' := 9) (l' := #[.val (.ref a), .val (.int p1), .val (.int p2), .val (.int ((g (p1).toInt) - (1 : Int32)))]) X_34.here hx (hb hby d6_8) rfl rfl ?_
  generalize hsl : ((g (p1).toInt) - (1 : Int32)) = sl
  show Win p.tables e below _ (T_34.setTop (mkF m 9 #[.val (.ref a), .val (.int p1), .val (.int p2), .val (.int sl)] []))
  have hsl' : sl.toInt = -1 := by rw [← hsl, hg]; rfl
  refine s_iloadN (pc' := 10) X_34.here hx (hb hby d6_9) rfl rfl ?_
  by_cases hc10 : (sl).toInt < (0 : Int)
  · skip
    refine s_ifNo (pc' := 13) X_34.here hx (hb hby d6_10) rfl ((if0 _ _).trans (tltI (x := sl) (y := (0 : Int32)) hc10).2.1) ?_
    refine s_aloadN (pc' := 14) X_34.here hx (hb hby d6_13) rfl rfl rfl ?_
    refine s_iloadN (pc' := 15) X_34.here hx (hb hby d6_14) rfl rfl ?_
    obtain ⟨cq_36, q_36, q_36'⟩ := E_a.cell
    obtain ⟨_, _, ⟨T_36, L_36, k_36, n_36⟩, -, X_36, ⟨Lc_36, hQ_36, l_36, y_36, z_36⟩, st_36⟩ := X_34.privateBack hx (y := (⟨"com/example/nearstable/nearstable/maximal/Players", "newSlot", "(I)I"⟩ : MethodName)) hown (mvT hZ (hw _ (List.mem_of_getElem? (i := 50) rfl))) (mvT hZ (hw _ (List.mem_of_getElem? (i := 51) rfl))) (own_selPriv (y := (⟨"com/example/nearstable/nearstable/maximal/Players", "newSlot", "(I)I"⟩ : MethodName)) (y' := (⟨"com/example/nearstable/nearstable/maximal/Players", "clear", "()V"⟩ : MethodName)) rfl (mvT hZ (hw _ (List.mem_of_getElem? (i := 29) rfl))) (Cond.privateMethod_at (mvP hZ (hw _ (List.mem_of_getElem? (i := 52) rfl)) (args := #[]))) (mvT hZ (hw _ (List.mem_of_getElem? (i := 51) rfl))) (by decide)) (Cond.privateMethod_at (mvP hZ (hw _ (List.mem_of_getElem? (i := 52) rfl)) (args := #[]))) (mvT hZ (hw _ (List.mem_of_getElem? (i := 53) rfl))) (by decide) (backOf (W := 0) (rm7_0 l Z a0 hw [] a p1 pl fi de ed pa el sp f1 f2 f3 f4 f5 f6 g h0 n0 Zs E_a F_player_a F_first_a F_degree_a F_edges_a F_partner_a F_edgeLeft_a F_slotPlus1_a F_slots_a F_edgeCount_a A_pl A_fi A_de A_ed A_pa A_el A_sp g_a g_pl g_fi g_de g_ed g_pa g_el g_sp ne_a_pl ne_a_fi ne_a_de ne_a_ed ne_a_pa ne_a_el ne_a_sp ne_pl_fi ne_pl_de ne_pl_ed ne_pl_pa ne_pl_el ne_pl_sp ne_fi_de ne_fi_ed ne_fi_pa ne_fi_el ne_fi_sp ne_de_ed ne_de_pa ne_de_el ne_de_sp ne_ed_pa ne_ed_el ne_ed_sp ne_pa_el ne_pa_sp ne_el_sp hbd) hZ (hw _ (List.mem_of_getElem? (i := 53) rfl)) (hw _ (List.mem_of_getElem? (i := 3) rfl)) (by decide) (by decide)) (g := (mkF m 15 #[.val (.ref a), .val (.int p1), .val (.int p2), .val (.int sl)] [(.int p1), (.ref a)])) rfl (by rw [hml]; rfl) (Steps.refl _) (a := a) (by rw [e_34]; exact q_36) q_36' (argsL := [(.int p1)]) (rest := []) (lenOf pd_0 rfl) rfl (by show 2 * 0 + _ ≤ _; exact Nat.le_of_eq rfl) (hb hby d6_15) (fun _ _ => ⟨rfl, e_34, (by decide : 0 + 0 ≤ _), (by decide : 0 + 0 ≤ _)⟩)
    dsimp only [Pt.U, Pt.locs, Pt.cells, Pt.slots] at X_36 l_36 y_36 z_36 st_36 hQ_36
    subst l_36 y_36 z_36
    obtain ⟨h_36, e_36⟩ : ∃ z, T_36.heap = z := ⟨_, rfl⟩
    rw [e_36] at hQ_36
    obtain ⟨Nq_36, K_36, n_36_F_player_a, n_36_F_first_a, n_36_F_degree_a, n_36_F_edges_a, n_36_F_partner_a, n_36_F_edgeLeft_a, n_36_F_slotPlus1_a, n_36_F_slots_a, n_36_F_edgeCount_a, n_36_A_pl, n_36_A_fi, n_36_A_de, n_36_A_pa, n_36_A_el, n_36_A_sp, rfl⟩ := hQ_36
    replace Nf := Fr.app Nf Nq_36
    replace E_a := E_a.keep K_36
    clear F_player_a
    clear F_first_a
    clear F_degree_a
    clear F_edges_a
    clear F_partner_a
    clear F_edgeLeft_a
    clear F_slotPlus1_a
    clear F_slots_a
    clear F_edgeCount_a
    clear A_pl
    clear A_fi
    clear A_de
    replace A_ed := A_ed.keep K_36 (ninS (Ne.symm ne_a_ed) (ninS (Ne.symm ne_pl_ed) (ninS (Ne.symm ne_fi_ed) (ninS (Ne.symm ne_de_ed) (ninS ne_ed_pa (ninS ne_ed_el (ninS ne_ed_sp nin0)))))))
    clear A_pa
    clear A_el
    clear A_sp
    replace lt_a := Nat.lt_of_lt_of_le lt_a K_36.1
    replace lt_pl := Nat.lt_of_lt_of_le lt_pl K_36.1
    replace lt_fi := Nat.lt_of_lt_of_le lt_fi K_36.1
    replace lt_de := Nat.lt_of_lt_of_le lt_de K_36.1
    replace lt_ed := Nat.lt_of_lt_of_le lt_ed K_36.1
    replace lt_pa := Nat.lt_of_lt_of_le lt_pa K_36.1
    replace lt_el := Nat.lt_of_lt_of_le lt_el K_36.1
    replace lt_sp := Nat.lt_of_lt_of_le lt_sp K_36.1
    replace Zs := Nat.le_trans Zs K_36.1
    replace Kp := Kp.trans K_36 (allS (Or.inl (by simp)) (allS (Or.inl (by simp)) (allS (Or.inl (by simp)) (allS (Or.inl (by simp)) (allS (Or.inl (by simp)) (allS (Or.inl (by simp)) (allS (Or.inl (by simp)) all0)))))))
    have F_player_a := n_36_F_player_a
    have F_first_a := n_36_F_first_a
    have F_degree_a := n_36_F_degree_a
    have F_edges_a := n_36_F_edges_a
    have F_partner_a := n_36_F_partner_a
    have F_edgeLeft_a := n_36_F_edgeLeft_a
    have F_slotPlus1_a := n_36_F_slotPlus1_a
    have F_slots_a := n_36_F_slots_a
    have F_edgeCount_a := n_36_F_edgeCount_a
    have A_pl := n_36_A_pl
    have A_fi := n_36_A_fi
    have A_de := n_36_A_de
    have A_pa := n_36_A_pa
    have A_el := n_36_A_el
    have A_sp := n_36_A_sp
    refine Win.come st_36 ?_
    clear st_36 Nq_36 X_34 e_34 K_36
    show Win p.tables e below _ (T_36.setTop (mkF m 18 #[.val (.ref a), .val (.int p1), .val (.int p2), .val (.int sl)] [(.int (0 : Int32))]))
    refine s_istoreN (pc' := 19) (l' := #[.val (.ref a), .val (.int p1), .val (.int p2), .val (.int (0 : Int32))]) X_36.here hx (hb hby d6_18) rfl rfl ?_
    refine s_goto (pc' := 61) X_36.here hx (hb hby d6_19) (by decide) (by decide) ?_
    refine s_aloadN (pc' := 62) X_36.here hx (hb hby d6_61) rfl rfl rfl ?_
    obtain ⟨T_37, X_37, e_37, st_37⟩ := getF X_36 hx hZ hown (host := "") (Or.inl (hw _ (List.mem_of_getElem? (i := 33) rfl))) Via.refl e_36 F_edgeCount_a (g := (mkF m 62 #[.val (.ref a), .val (.int p1), .val (.int p2), .val (.int (0 : Int32))] [(.ref a)])) rfl rfl (hb hby d6_62)
    refine Win.go st_37 ?_
    clear st_37 X_36 e_36
    show Win p.tables e below _ (T_37.setTop (mkF m 65 #[.val (.ref a), .val (.int p1), .val (.int p2), .val (.int (0 : Int32))] [(.int (0 : Int32))]))
    refine s_aloadN (pc' := 66) X_37.here hx (hb hby d6_65) rfl rfl rfl ?_
    obtain ⟨T_38, X_38, e_38, st_38⟩ := getF X_37 hx hZ hown (host := "") (Or.inl (hw _ (List.mem_of_getElem? (i := 17) rfl))) Via.refl e_37 F_edges_a (g := (mkF m 66 #[.val (.ref a), .val (.int p1), .val (.int p2), .val (.int (0 : Int32))] [(.ref a), (.int (0 : Int32))])) rfl rfl (hb hby d6_66)
    refine Win.go st_38 ?_
    clear st_38 X_37 e_37
    show Win p.tables e below _ (T_38.setTop (mkF m 69 #[.val (.ref a), .val (.int p1), .val (.int p2), .val (.int (0 : Int32))] [(.ref ed), (.int (0 : Int32))]))
    obtain ⟨cl_39, Ar_39, S_39, G_39⟩ := id A_ed
    refine Win.go (fun _ k => X_38.arraylength hx (by rw [e_38]; exact Ar_39.1) (State.isArrayOf_alike hZ.alike Ar_39.2.1) (g := (mkF m 69 #[.val (.ref a), .val (.int p1), .val (.int p2), .val (.int (0 : Int32))] [(.ref ed), (.int (0 : Int32))])) rfl rfl (hb hby d6_69) _ k) ?_
    rw [S_39]
    clear Ar_39 S_39 G_39
    show Win p.tables e below _ (T_38.setTop (mkF m 70 #[.val (.ref a), .val (.int p1), .val (.int p2), .val (.int (0 : Int32))] [(.int (16 : Int32)), (.int (0 : Int32))]))
    refine s_icmpYes (pc' := 97) X_38.here hx (hb hby d6_70) (feqI (x := (0 : Int32)) (y := (16 : Int32)) (by decide)).2 (by decide) (by decide) ?_
    refine s_aloadN (pc' := 98) X_38.here hx (hb hby d6_97) rfl rfl rfl ?_
    obtain ⟨T_40, X_40, e_40, st_40⟩ := getF X_38 hx hZ hown (host := "") (Or.inl (hw _ (List.mem_of_getElem? (i := 17) rfl))) Via.refl e_38 F_edges_a (g := (mkF m 98 #[.val (.ref a), .val (.int p1), .val (.int p2), .val (.int (0 : Int32))] [(.ref a)])) rfl rfl (hb hby d6_98)
    refine Win.go st_40 ?_
    clear st_40 X_38 e_38
    show Win p.tables e below _ (T_40.setTop (mkF m 101 #[.val (.ref a), .val (.int p1), .val (.int p2), .val (.int (0 : Int32))] [(.ref ed)]))
    refine s_aloadN (pc' := 102) X_40.here hx (hb hby d6_101) rfl rfl rfl ?_
    refine s_dup (pc' := 103) X_40.here hx (hb hby d6_102) rfl rfl ?_
    obtain ⟨T_41, X_41, e_41, st_41⟩ := getF X_40 hx hZ hown (host := "") (Or.inl (hw _ (List.mem_of_getElem? (i := 33) rfl))) Via.refl e_40 F_edgeCount_a (g := (mkF m 103 #[.val (.ref a), .val (.int p1), .val (.int p2), .val (.int (0 : Int32))] [(.ref a), (.ref a), (.ref ed)])) rfl rfl (hb hby d6_103)
    refine Win.go st_41 ?_
    clear st_41 X_40 e_40
    show Win p.tables e below _ (T_41.setTop (mkF m 106 #[.val (.ref a), .val (.int p1), .val (.int p2), .val (.int (0 : Int32))] [(.int (0 : Int32)), (.ref a), (.ref ed)]))
    refine Win.go (fun _ k => XS.dupX1 X_41.here hx rfl (hb hby d6_106) rfl rfl rfl k) ?_
    show Win p.tables e below _ (T_41.setTop (mkF m 107 #[.val (.ref a), .val (.int p1), .val (.int p2), .val (.int (0 : Int32))] [(.int (0 : Int32)), (.ref a), (.int (0 : Int32)), (.ref ed)]))
    refine s_iconst (pc' := 108) (z := (1 : Int32)) X_41.here hx (hb hby d6_107) rfl rfl ?_
    refine Win.go (fun _ k => XS.iadd X_41.here hx rfl (hb hby d6_108) rfl k) ?_
    show Win p.tables e below _ (T_41.setTop (mkF m 109 #[.val (.ref a), .val (.int p1), .val (.int p2), .val (.int (0 : Int32))] [(.int (1 : Int32)), (.ref a), (.int (0 : Int32)), (.ref ed)]))
    obtain ⟨T_42, h_42, X_42, e_42, W_42, st_42⟩ := putF X_41 hx hZ hown (host := "") (Or.inl (hw _ (List.mem_of_getElem? (i := 33) rfl))) Via.refl e_41 F_edgeCount_a E_a (Or.inl (hw _ (List.mem_of_getElem? (i := 34) rfl))) (hw _ (List.mem_of_getElem? (i := 2) rfl)) (ty := .int) (by decide) rfl rfl (g := (mkF m 109 #[.val (.ref a), .val (.int p1), .val (.int p2), .val (.int (0 : Int32))] [(.int (1 : Int32)), (.ref a), (.int (0 : Int32)), (.ref ed)])) rfl rfl (hb hby d6_109)
    replace E_a := E_a.wr W_42
    replace A_ed := A_ed.other W_42 (Ne.symm ne_a_ed)
    replace F_player_a := F_player_a.other W_42 (Or.inr (slot_ne (Or.inl (hw _ (List.mem_of_getElem? (i := 12) rfl))) (Or.inl (hw _ (List.mem_of_getElem? (i := 34) rfl))) (by decide) (t := (.array .int)) (t' := .int) (by decide) (by decide)))
    replace F_first_a := F_first_a.other W_42 (Or.inr (slot_ne (Or.inl (hw _ (List.mem_of_getElem? (i := 14) rfl))) (Or.inl (hw _ (List.mem_of_getElem? (i := 34) rfl))) (by decide) (t := (.array .int)) (t' := .int) (by decide) (by decide)))
    replace F_degree_a := F_degree_a.other W_42 (Or.inr (slot_ne (Or.inl (hw _ (List.mem_of_getElem? (i := 16) rfl))) (Or.inl (hw _ (List.mem_of_getElem? (i := 34) rfl))) (by decide) (t := (.array .int)) (t' := .int) (by decide) (by decide)))
    replace F_edges_a := F_edges_a.other W_42 (Or.inr (slot_ne (Or.inl (hw _ (List.mem_of_getElem? (i := 18) rfl))) (Or.inl (hw _ (List.mem_of_getElem? (i := 34) rfl))) (by decide) (t := (.array .int)) (t' := .int) (by decide) (by decide)))
    replace F_partner_a := F_partner_a.other W_42 (Or.inr (slot_ne (Or.inl (hw _ (List.mem_of_getElem? (i := 20) rfl))) (Or.inl (hw _ (List.mem_of_getElem? (i := 34) rfl))) (by decide) (t := (.array .int)) (t' := .int) (by decide) (by decide)))
    replace F_edgeLeft_a := F_edgeLeft_a.other W_42 (Or.inr (slot_ne (Or.inl (hw _ (List.mem_of_getElem? (i := 23) rfl))) (Or.inl (hw _ (List.mem_of_getElem? (i := 34) rfl))) (by decide) (t := (.array .boolean)) (t' := .int) (by decide) (by decide)))
    replace F_slotPlus1_a := F_slotPlus1_a.other W_42 (Or.inr (slot_ne (Or.inr (hw _ (List.mem_of_getElem? (i := 25) rfl))) (Or.inl (hw _ (List.mem_of_getElem? (i := 34) rfl))) (by decide) (t := (.array .int)) (t' := .int) (by decide) (by decide)))
    replace F_slots_a := F_slots_a.other W_42 (Or.inr (slot_ne (Or.inl (hw _ (List.mem_of_getElem? (i := 32) rfl))) (Or.inl (hw _ (List.mem_of_getElem? (i := 34) rfl))) (by decide) (t := .int) (t' := .int) (by decide) (by decide)))
    replace A_pl := A_pl.other W_42 (Ne.symm ne_a_pl)
    replace A_fi := A_fi.other W_42 (Ne.symm ne_a_fi)
    replace A_de := A_de.other W_42 (Ne.symm ne_a_de)
    replace A_pa := A_pa.other W_42 (Ne.symm ne_a_pa)
    replace A_el := A_el.other W_42 (Ne.symm ne_a_el)
    replace A_sp := A_sp.other W_42 (Ne.symm ne_a_sp)
    replace lt_a := Nat.lt_of_lt_of_le lt_a (Keep.of_wr W_42).1
    replace lt_pl := Nat.lt_of_lt_of_le lt_pl (Keep.of_wr W_42).1
    replace lt_fi := Nat.lt_of_lt_of_le lt_fi (Keep.of_wr W_42).1
    replace lt_de := Nat.lt_of_lt_of_le lt_de (Keep.of_wr W_42).1
    replace lt_ed := Nat.lt_of_lt_of_le lt_ed (Keep.of_wr W_42).1
    replace lt_pa := Nat.lt_of_lt_of_le lt_pa (Keep.of_wr W_42).1
    replace lt_el := Nat.lt_of_lt_of_le lt_el (Keep.of_wr W_42).1
    replace lt_sp := Nat.lt_of_lt_of_le lt_sp (Keep.of_wr W_42).1
    replace Zs := Nat.le_trans Zs (Keep.of_wr W_42).1
    replace Kp := Kp.wr W_42 (Or.inl (by simp))
    replace F_edgeCount_a := F_edgeCount_a.same W_42
    replace Nf := Fr.snoc X_42 Nf g_a
    refine Win.go st_42 ?_
    clear st_42 W_42 X_41 e_41
    show Win p.tables e below _ (T_42.setTop (mkF m 112 #[.val (.ref a), .val (.int p1), .val (.int p2), .val (.int (0 : Int32))] [(.int (0 : Int32)), (.ref ed)]))
    refine s_iloadN (pc' := 113) X_42.here hx (hb hby d6_112) rfl rfl ?_
    obtain ⟨cl_43, Ar_43, S_43, G_43⟩ := id A_ed
    have hb_43 : 0 ≤ ((0 : Int32)).toInt ∧ ((0 : Int32)).toInt < 16 := by decide
    obtain ⟨T_43, h_43, X_43, e_43, W_43, st_43⟩ := stI X_42 hx hZ e_42 Ar_43 (j := (0 : Int32)) (AF.inb S_43 hb_43) (g := (mkF m 113 #[.val (.ref a), .val (.int p1), .val (.int p2), .val (.int (0 : Int32))] [(.int p2), (.int (0 : Int32)), (.ref ed)])) rfl rfl (hb hby d6_113)
    have A_43 : AF Z h_43 ed .int 16 (updF f4 (0 : Int) p2) := AF.set Ar_43 S_43 G_43 W_43 hb_43
    replace E_a := E_a.wr W_43
    replace F_player_a := F_player_a.other W_43 (Or.inl ne_a_ed)
    replace F_first_a := F_first_a.other W_43 (Or.inl ne_a_ed)
    replace F_degree_a := F_degree_a.other W_43 (Or.inl ne_a_ed)
    replace F_edges_a := F_edges_a.other W_43 (Or.inl ne_a_ed)
    replace F_partner_a := F_partner_a.other W_43 (Or.inl ne_a_ed)
    replace F_edgeLeft_a := F_edgeLeft_a.other W_43 (Or.inl ne_a_ed)
    replace F_slotPlus1_a := F_slotPlus1_a.other W_43 (Or.inl ne_a_ed)
    replace F_slots_a := F_slots_a.other W_43 (Or.inl ne_a_ed)
    replace F_edgeCount_a := F_edgeCount_a.other W_43 (Or.inl ne_a_ed)
    replace A_pl := A_pl.other W_43 ne_pl_ed
    replace A_fi := A_fi.other W_43 ne_fi_ed
    replace A_de := A_de.other W_43 ne_de_ed
    replace A_pa := A_pa.other W_43 (Ne.symm ne_ed_pa)
    replace A_el := A_el.other W_43 (Ne.symm ne_ed_el)
    replace A_sp := A_sp.other W_43 (Ne.symm ne_ed_sp)
    replace lt_a := Nat.lt_of_lt_of_le lt_a (Keep.of_wr W_43).1
    replace lt_pl := Nat.lt_of_lt_of_le lt_pl (Keep.of_wr W_43).1
    replace lt_fi := Nat.lt_of_lt_of_le lt_fi (Keep.of_wr W_43).1
    replace lt_de := Nat.lt_of_lt_of_le lt_de (Keep.of_wr W_43).1
    replace lt_ed := Nat.lt_of_lt_of_le lt_ed (Keep.of_wr W_43).1
    replace lt_pa := Nat.lt_of_lt_of_le lt_pa (Keep.of_wr W_43).1
    replace lt_el := Nat.lt_of_lt_of_le lt_el (Keep.of_wr W_43).1
    replace lt_sp := Nat.lt_of_lt_of_le lt_sp (Keep.of_wr W_43).1
    replace Zs := Nat.le_trans Zs (Keep.of_wr W_43).1
    replace Kp := Kp.wr W_43 (Or.inl (by simp))
    replace A_ed := A_43
    replace Nf := Fr.snoc X_43 Nf g_ed
    refine Win.go st_43 ?_
    clear st_43 W_43 A_43 Ar_43 S_43 G_43 hb_43 X_42 e_42
    show Win p.tables e below _ (T_43.setTop (mkF m 114 #[.val (.ref a), .val (.int p1), .val (.int p2), .val (.int (0 : Int32))] []))
    refine s_aloadN (pc' := 115) X_43.here hx (hb hby d6_114) rfl rfl rfl ?_
    obtain ⟨T_44, X_44, e_44, st_44⟩ := getF X_43 hx hZ hown (host := "") (Or.inl (hw _ (List.mem_of_getElem? (i := 15) rfl))) Via.refl e_43 F_degree_a (g := (mkF m 115 #[.val (.ref a), .val (.int p1), .val (.int p2), .val (.int (0 : Int32))] [(.ref a)])) rfl rfl (hb hby d6_115)
    refine Win.go st_44 ?_
    clear st_44 X_43 e_43
    show Win p.tables e below _ (T_44.setTop (mkF m 118 #[.val (.ref a), .val (.int p1), .val (.int p2), .val (.int (0 : Int32))] [(.ref de)]))
    refine s_iloadN (pc' := 119) X_44.here hx (hb hby d6_118) rfl rfl ?_
    refine Win.go (fun _ k => XT.dup2 X_44.here hx rfl (hb hby d6_119) rfl rfl rfl k) ?_
    show Win p.tables e below _ (T_44.setTop (mkF m 120 #[.val (.ref a), .val (.int p1), .val (.int p2), .val (.int (0 : Int32))] [(.int (0 : Int32)), (.ref de), (.int (0 : Int32)), (.ref de)]))
    obtain ⟨cl_45, Ar_45, S_45, G_45⟩ := id A_de
    have hb_45 : 0 ≤ ((0 : Int32)).toInt ∧ ((0 : Int32)).toInt < 16 := by decide
    refine Win.go (fun _ k => X_44.iaload hx (j := (0 : Int32)) (v := (.int ((updF f3 (0 : Int) (0 : Int32)) (0 : Int)))) (by rw [e_44]; exact Ar_45.1) (State.isArrayOf_alike hZ.alike Ar_45.2.1) Ar_45.2.2 (AF.inb S_45 hb_45) (G_45 _ hb_45.1 hb_45.2) (g := (mkF m 120 #[.val (.ref a), .val (.int p1), .val (.int p2), .val (.int (0 : Int32))] [(.int (0 : Int32)), (.ref de), (.int (0 : Int32)), (.ref de)])) rfl rfl (hb hby d6_120) _ k) ?_
    show Win p.tables e below _ (T_44.setTop (mkF m 121 #[.val (.ref a), .val (.int p1), .val (.int p2), .val (.int (0 : Int32))] [(.int ((updF f3 (0 : Int) (0 : Int32)) (0 : Int))), (.int (0 : Int32)), (.ref de)]))
    clear Ar_45 S_45 G_45 hb_45
    refine s_iconst (pc' := 122) (z := (1 : Int32)) X_44.here hx (hb hby d6_121) rfl rfl ?_
    refine s_iadd (pc' := 123) X_44.here hx (hb hby d6_122) rfl ?_
    obtain ⟨cl_46, Ar_46, S_46, G_46⟩ := id A_de
    have hb_46 : 0 ≤ ((0 : Int32)).toInt ∧ ((0 : Int32)).toInt < 16 := by decide
    obtain ⟨T_46, h_46, X_46, e_46, W_46, st_46⟩ := stI X_44 hx hZ e_44 Ar_46 (j := (0 : Int32)) (AF.inb S_46 hb_46) (g := (mkF m 123 #[.val (.ref a), .val (.int p1), .val (.int p2), .val (.int (0 : Int32))] [(.int (((updF f3 (0 : Int) (0 : Int32)) (0 : Int)) + (1 : Int32))), (.int (0 : Int32)), (.ref de)])) rfl rfl (hb hby d6_123)
    have A_46 : AF Z h_46 de .int 16 (updF (updF f3 (0 : Int) (0 : Int32)) (0 : Int) (((updF f3 (0 : Int) (0 : Int32)) (0 : Int)) + (1 : Int32))) := AF.set Ar_46 S_46 G_46 W_46 hb_46
    replace E_a := E_a.wr W_46
    replace F_player_a := F_player_a.other W_46 (Or.inl ne_a_de)
    replace F_first_a := F_first_a.other W_46 (Or.inl ne_a_de)
    replace F_degree_a := F_degree_a.other W_46 (Or.inl ne_a_de)
    replace F_edges_a := F_edges_a.other W_46 (Or.inl ne_a_de)
    replace F_partner_a := F_partner_a.other W_46 (Or.inl ne_a_de)
    replace F_edgeLeft_a := F_edgeLeft_a.other W_46 (Or.inl ne_a_de)
    replace F_slotPlus1_a := F_slotPlus1_a.other W_46 (Or.inl ne_a_de)
    replace F_slots_a := F_slots_a.other W_46 (Or.inl ne_a_de)
    replace F_edgeCount_a := F_edgeCount_a.other W_46 (Or.inl ne_a_de)
    replace A_pl := A_pl.other W_46 ne_pl_de
    replace A_fi := A_fi.other W_46 ne_fi_de
    replace A_pa := A_pa.other W_46 (Ne.symm ne_de_pa)
    replace A_el := A_el.other W_46 (Ne.symm ne_de_el)
    replace A_sp := A_sp.other W_46 (Ne.symm ne_de_sp)
    replace A_ed := A_ed.other W_46 (Ne.symm ne_de_ed)
    replace lt_a := Nat.lt_of_lt_of_le lt_a (Keep.of_wr W_46).1
    replace lt_pl := Nat.lt_of_lt_of_le lt_pl (Keep.of_wr W_46).1
    replace lt_fi := Nat.lt_of_lt_of_le lt_fi (Keep.of_wr W_46).1
    replace lt_de := Nat.lt_of_lt_of_le lt_de (Keep.of_wr W_46).1
    replace lt_ed := Nat.lt_of_lt_of_le lt_ed (Keep.of_wr W_46).1
    replace lt_pa := Nat.lt_of_lt_of_le lt_pa (Keep.of_wr W_46).1
    replace lt_el := Nat.lt_of_lt_of_le lt_el (Keep.of_wr W_46).1
    replace lt_sp := Nat.lt_of_lt_of_le lt_sp (Keep.of_wr W_46).1
    replace Zs := Nat.le_trans Zs (Keep.of_wr W_46).1
    replace Kp := Kp.wr W_46 (Or.inl (by simp))
    replace A_de := A_46
    replace Nf := Fr.snoc X_46 Nf g_de
    refine Win.go st_46 ?_
    clear st_46 W_46 A_46 Ar_46 S_46 G_46 hb_46 X_44 e_44
    show Win p.tables e below _ (T_46.setTop (mkF m 124 #[.val (.ref a), .val (.int p1), .val (.int p2), .val (.int (0 : Int32))] []))
    refine winV X_46 hx hlk e_46 Bd.returns (hb hby d6_124) (by decide) (by decide) ?_
    exact ⟨Nf, Kp, F_player_a, F_first_a, F_degree_a, F_edges_a, F_partner_a, F_edgeLeft_a, F_slotPlus1_a, F_slots_a, F_edgeCount_a, A_pl, A_fi, A_de, A_ed, A_pa, A_el, A_sp, rfl⟩
  · skip
    exfalso
    omega
theorem ef_7_1 (m : MethodId) (a : Addr) (p1 : Int32) : entryFrame m #[(.ref a), (.int p1)] 3 = mkF m 0 #[.val (.ref a), .val (.int p1), .unset] [] := by first | (simp [entryFrame, mkF, argsToLocals, Value.category]; done) | rfl
def Q7_1 (Z : State) (a : Addr) (p1 : Int32) (pl : Addr) (fi : Addr) (de : Addr) (ed : Addr) (pa : Addr) (el : Addr) (sp : Addr) (f1 : Int → Int32) (f2 : Int → Int32) (f3 : Int → Int32) (f4 : Int → Int32) (f5 : Int → Int32) (f6 : Int → Int32) (g : Int → Int32) (h0 : Heap) (n0 : Nat) (v : Option Value) (h : Heap) (L : List Loc) : Prop := Fr n0 L ∧ Keep h0 h [a, pl, fi, de, pa, el, sp] ∧ Fld Z h a "com/example/nearstable/nearstable/maximal/Players" "player" "[I" (.ref pl) ∧ Fld Z h a "com/example/nearstable/nearstable/maximal/Players" "first" "[I" (.ref fi) ∧ Fld Z h a "com/example/nearstable/nearstable/maximal/Players" "degree" "[I" (.ref de) ∧ Fld Z h a "com/example/nearstable/nearstable/maximal/Players" "edges" "[I" (.ref ed) ∧ Fld Z h a "com/example/nearstable/nearstable/maximal/Players" "partner" "[I" (.ref pa) ∧ Fld Z h a "com/example/nearstable/nearstable/maximal/Players" "edgeLeft" "[Z" (.ref el) ∧ Fld Z h a "com/example/nearstable/nearstable/maximal/Players" "slotPlus1" "[I" (.ref sp) ∧ Fld Z h a "com/example/nearstable/nearstable/maximal/Players" "slots" "I" (.int (2 : Int32)) ∧ Fld Z h a "com/example/nearstable/nearstable/maximal/Players" "edgeCount" "I" (.int (1 : Int32)) ∧ AF Z h pl .int 16 (updF f1 (1 : Int) p1) ∧ AF Z h fi .int 16 (updF f2 (1 : Int) (1 : Int32)) ∧ AF Z h de .int 16 (updF f3 (1 : Int) (0 : Int32)) ∧ AF Z h pa .int 16 (updF f5 (1 : Int) (0 : Int32)) ∧ AF Z h el .boolean 16 (updF f6 (1 : Int) (0 : Int32)) ∧ AF Z h sp .int 8 (updF g (p1).toInt (2 : Int32)) ∧ v = some (.int (1 : Int32))
set_option maxRecDepth 65536 in
set_option maxHeartbeats 40000000 in
theorem rm7_1 (l : Launch) (Z : State) (a0 : Array Value) (hw : ∀ d ∈ tables_1, d.before a0 Z = true) (ws : List Jvm.Cond) (a : Addr) (p1 : Int32) (pl : Addr) (fi : Addr) (de : Addr) (ed : Addr) (pa : Addr) (el : Addr) (sp : Addr) (f1 : Int → Int32) (f2 : Int → Int32) (f3 : Int → Int32) (f4 : Int → Int32) (f5 : Int → Int32) (f6 : Int → Int32) (g : Int → Int32) (h0 : Heap) (n0 : Nat) (Zs : n0 ≤ h0.size) (E_a : Exa Z h0 a "com/example/nearstable/nearstable/maximal/Players") (F_player_a : Fld Z h0 a "com/example/nearstable/nearstable/maximal/Players" "player" "[I" (.ref pl)) (F_first_a : Fld Z h0 a "com/example/nearstable/nearstable/maximal/Players" "first" "[I" (.ref fi)) (F_degree_a : Fld Z h0 a "com/example/nearstable/nearstable/maximal/Players" "degree" "[I" (.ref de)) (F_edges_a : Fld Z h0 a "com/example/nearstable/nearstable/maximal/Players" "edges" "[I" (.ref ed)) (F_partner_a : Fld Z h0 a "com/example/nearstable/nearstable/maximal/Players" "partner" "[I" (.ref pa)) (F_edgeLeft_a : Fld Z h0 a "com/example/nearstable/nearstable/maximal/Players" "edgeLeft" "[Z" (.ref el)) (F_slotPlus1_a : Fld Z h0 a "com/example/nearstable/nearstable/maximal/Players" "slotPlus1" "[I" (.ref sp)) (F_slots_a : Fld Z h0 a "com/example/nearstable/nearstable/maximal/Players" "slots" "I" (.int (1 : Int32))) (F_edgeCount_a : Fld Z h0 a "com/example/nearstable/nearstable/maximal/Players" "edgeCount" "I" (.int (1 : Int32))) (A_pl : AF Z h0 pl .int 16 f1) (A_fi : AF Z h0 fi .int 16 f2) (A_de : AF Z h0 de .int 16 f3) (A_ed : AF Z h0 ed .int 16 f4) (A_pa : AF Z h0 pa .int 16 f5) (A_el : AF Z h0 el .boolean 16 f6) (A_sp : AF Z h0 sp .int 8 g) (g_a : n0 ≤ a) (g_pl : n0 ≤ pl) (g_fi : n0 ≤ fi) (g_de : n0 ≤ de) (g_ed : n0 ≤ ed) (g_pa : n0 ≤ pa) (g_el : n0 ≤ el) (g_sp : n0 ≤ sp) (ne_a_pl : a ≠ pl) (ne_a_fi : a ≠ fi) (ne_a_de : a ≠ de) (ne_a_ed : a ≠ ed) (ne_a_pa : a ≠ pa) (ne_a_el : a ≠ el) (ne_a_sp : a ≠ sp) (ne_pl_fi : pl ≠ fi) (ne_pl_de : pl ≠ de) (ne_pl_ed : pl ≠ ed) (ne_pl_pa : pl ≠ pa) (ne_pl_el : pl ≠ el) (ne_pl_sp : pl ≠ sp) (ne_fi_de : fi ≠ de) (ne_fi_ed : fi ≠ ed) (ne_fi_pa : fi ≠ pa) (ne_fi_el : fi ≠ el) (ne_fi_sp : fi ≠ sp) (ne_de_ed : de ≠ ed) (ne_de_pa : de ≠ pa) (ne_de_el : de ≠ el) (ne_de_sp : de ≠ sp) (ne_ed_pa : ed ≠ pa) (ne_ed_el : ed ≠ el) (ne_ed_sp : ed ≠ sp) (ne_pa_el : pa ≠ el) (ne_pa_sp : pa ≠ sp) (ne_el_sp : el ≠ sp) (hbd : 0 ≤ p1.toInt ∧ p1.toInt < 8) :
    MetFree l (⟨"com/example/nearstable/nearstable/maximal/Players", "newSlot", "(I)I"⟩ : MethodName) (head1 (Jvm.Cond.code (⟨"com/example/nearstable/nearstable/maximal/Players", "newSlot", "(I)I"⟩ : MethodName) prog_53_method_14_code 3 (some .int) :: ws) ({ frames := 0, cells := 0, slots := 0, locals := 0 } : Room)) (fun as' U => as' = #[(.ref a), (.int p1)] ∧ Z.Warmed39 U.vm ∧ U.heap = h0) (fun _ _ _ _ _ => True) (fun _ U o U' => ∃ v L, o = .returned v ∧ Q7_1 Z a p1 pl fi de ed pa el sp f1 f2 f3 f4 f5 f6 g h0 n0 v U'.heap L ∧ FrameEnd U o U' L ({ frames := 0, cells := 0, slots := 0, locals := 0 } : Room).cells ({ frames := 0, cells := 0, slots := 0, locals := 0 } : Room).slots) := by
  refine MetFree.of_bodySF (plainFor_of_name pn_1) hisR ?_
  intro p e s m args below meth c s₁ Bd hml0 hP hK
  obtain ⟨rfl, hZ, hh⟩ := hP
  have hx := Bd.exec
  have hby := Bd.bytes
  have hml : c.maxLocals = 3 := hml0
  have hown : s.vm.findClass "com/example/nearstable/nearstable/maximal/Players" = some m.cls := findClass_of_methodNamed Bd.named
  have hnm := (name_of_methodNamed Bd.named Bd.method).1
  have hlk : meth.locks = false := Bd.notSynchronized
  have X0 : Stand p l e ({ frames := 0, cells := 0, slots := 0, locals := 0 } : Room) s m #[(.ref a), (.int p1)] below meth c s₁ [] 0 0 := Stand.of_body Bd
  have e0 : s₁.heap = h0 := by rw [← hh, Bd.state]; rfl
  have Nf := Fr.nil n0
  refine (?_ : Win p.tables e below (PostQ s (Q7_1 Z a p1 pl fi de ed pa el sp f1 f2 f3 f4 f5 f6 g h0 n0) ({ frames := 0, cells := 0, slots := 0, locals := 0 } : Room).cells ({ frames := 0, cells := 0, slots := 0, locals := 0 } : Room).slots) (s₁.setTop (entryFrame m #[(.ref a), (.int p1)] 3)))
  rw [ef_7_1]
  have Kp : Keep h0 h0 [a, pl, fi, de, pa, el, sp] := Keep.refl h0 _
  have lt_a : a < h0.size := E_a.lt
  have lt_pl : pl < h0.size := A_pl.lt
  have lt_fi : fi < h0.size := A_fi.lt
  have lt_de : de < h0.size := A_de.lt
  have lt_ed : ed < h0.size := A_ed.lt
  have lt_pa : pa < h0.size := A_pa.lt
  have lt_el : el < h0.size := A_el.lt
  have lt_sp : sp < h0.size := A_sp.lt
  show Win p.tables e below _ (s₁.setTop (mkF m 0 #[.val (.ref a), .val (.int p1), .unset] []))
  refine s_aloadN (pc' := 1) X0.here hx (hb hby d7_0) rfl rfl rfl ?_
  obtain ⟨T_47, X_47, e_47, st_47⟩ := getF X0 hx hZ hown (host := "") (Or.inl (hw _ (List.mem_of_getElem? (i := 31) rfl))) Via.refl e0 F_slots_a (g := (mkF m 1 #[.val (.ref a), .val (.int p1), .unset] [(.ref a)])) rfl rfl (hb hby d7_1)
  refine Win.go st_47 ?_
  clear st_47 X0 e0
  show Win p.tables e below _ (T_47.setTop (mkF m 4 #[.val (.ref a), .val (.int p1), .unset] [(.int (1 : Int32))]))
  refine s_aloadN (pc' := 5) X_47.here hx (hb hby d7_4) rfl rfl rfl ?_
  obtain ⟨T_48, X_48, e_48, st_48⟩ := getF X_47 hx hZ hown (host := "") (Or.inl (hw _ (List.mem_of_getElem? (i := 11) rfl))) Via.refl e_47 F_player_a (g := (mkF m 5 #[.val (.ref a), .val (.int p1), .unset] [(.ref a), (.int (1 : Int32))])) rfl rfl (hb hby d7_5)
  refine Win.go st_48 ?_
  clear st_48 X_47 e_47
  show Win p.tables e below _ (T_48.setTop (mkF m 8 #[.val (.ref a), .val (.int p1), .unset] [(.ref pl), (.int (1 : Int32))]))
  obtain ⟨cl_49, Ar_49, S_49, G_49⟩ := id A_pl
  refine Win.go (fun _ k => X_48.arraylength hx (by rw [e_48]; exact Ar_49.1) (State.isArrayOf_alike hZ.alike Ar_49.2.1) (g := (mkF m 8 #[.val (.ref a), .val (.int p1), .unset] [(.ref pl), (.int (1 : Int32))])) rfl rfl (hb hby d7_8) _ k) ?_
  rw [S_49]
  clear Ar_49 S_49 G_49
  show Win p.tables e below _ (T_48.setTop (mkF m 9 #[.val (.ref a), .val (.int p1), .unset] [(.int (16 : Int32)), (.int (1 : Int32))]))
  refine s_icmpYes (pc' := 86) X_48.here hx (hb hby d7_9) (feqI (x := (1 : Int32)) (y := (16 : Int32)) (by decide)).2 (by decide) (by decide) ?_
  refine s_aloadN (pc' := 87) X_48.here hx (hb hby d7_86) rfl rfl rfl ?_
  refine s_dup (pc' := 88) X_48.here hx (hb hby d7_87) rfl rfl ?_
  obtain ⟨T_50, X_50, e_50, st_50⟩ := getF X_48 hx hZ hown (host := "") (Or.inl (hw _ (List.mem_of_getElem? (i := 31) rfl))) Via.refl e_48 F_slots_a (g := (mkF m 88 #[.val (.ref a), .val (.int p1), .unset] [(.ref a), (.ref a)])) rfl rfl (hb hby d7_88)
  refine Win.go st_50 ?_
  clear st_50 X_48 e_48
  show Win p.tables e below _ (T_50.setTop (mkF m 91 #[.val (.ref a), .val (.int p1), .unset] [(.int (1 : Int32)), (.ref a)]))
  refine Win.go (fun _ k => XS.dupX1 X_50.here hx rfl (hb hby d7_91) rfl rfl rfl k) ?_
  show Win p.tables e below _ (T_50.setTop (mkF m 92 #[.val (.ref a), .val (.int p1), .unset] [(.int (1 : Int32)), (.ref a), (.int (1 : Int32))]))
  refine s_iconst (pc' := 93) (z := (1 : Int32)) X_50.here hx (hb hby d7_92) rfl rfl ?_
  refine Win.go (fun _ k => XS.iadd X_50.here hx rfl (hb hby d7_93) rfl k) ?_
  show Win p.tables e below _ (T_50.setTop (mkF m 94 #[.val (.ref a), .val (.int p1), .unset] [(.int (2 : Int32)), (.ref a), (.int (1 : Int32))]))
  obtain ⟨T_51, h_51, X_51, e_51, W_51, st_51⟩ := putF X_50 hx hZ hown (host := "") (Or.inl (hw _ (List.mem_of_getElem? (i := 31) rfl))) Via.refl e_50 F_slots_a E_a (Or.inl (hw _ (List.mem_of_getElem? (i := 32) rfl))) (hw _ (List.mem_of_getElem? (i := 2) rfl)) (ty := .int) (by decide) rfl rfl (g := (mkF m 94 #[.val (.ref a), .val (.int p1), .unset] [(.int (2 : Int32)), (.ref a), (.int (1 : Int32))])) rfl rfl (hb hby d7_94)
  replace E_a := E_a.wr W_51
  replace F_player_a := F_player_a.other W_51 (Or.inr (slot_ne (Or.inl (hw _ (List.mem_of_getElem? (i := 12) rfl))) (Or.inl (hw _ (List.mem_of_getElem? (i := 32) rfl))) (by decide) (t := (.array .int)) (t' := .int) (by decide) (by decide)))
  replace F_first_a := F_first_a.other W_51 (Or.inr (slot_ne (Or.inl (hw _ (List.mem_of_getElem? (i := 14) rfl))) (Or.inl (hw _ (List.mem_of_getElem? (i := 32) rfl))) (by decide) (t := (.array .int)) (t' := .int) (by decide) (by decide)))
  replace F_degree_a := F_degree_a.other W_51 (Or.inr (slot_ne (Or.inl (hw _ (List.mem_of_getElem? (i := 16) rfl))) (Or.inl (hw _ (List.mem_of_getElem? (i := 32) rfl))) (by decide) (t := (.array .int)) (t' := .int) (by decide) (by decide)))
  replace F_edges_a := F_edges_a.other W_51 (Or.inr (slot_ne (Or.inl (hw _ (List.mem_of_getElem? (i := 18) rfl))) (Or.inl (hw _ (List.mem_of_getElem? (i := 32) rfl))) (by decide) (t := (.array .int)) (t' := .int) (by decide) (by decide)))
  replace F_partner_a := F_partner_a.other W_51 (Or.inr (slot_ne (Or.inl (hw _ (List.mem_of_getElem? (i := 20) rfl))) (Or.inl (hw _ (List.mem_of_getElem? (i := 32) rfl))) (by decide) (t := (.array .int)) (t' := .int) (by decide) (by decide)))
  replace F_edgeLeft_a := F_edgeLeft_a.other W_51 (Or.inr (slot_ne (Or.inl (hw _ (List.mem_of_getElem? (i := 23) rfl))) (Or.inl (hw _ (List.mem_of_getElem? (i := 32) rfl))) (by decide) (t := (.array .boolean)) (t' := .int) (by decide) (by decide)))
  replace F_slotPlus1_a := F_slotPlus1_a.other W_51 (Or.inr (slot_ne (Or.inr (hw _ (List.mem_of_getElem? (i := 25) rfl))) (Or.inl (hw _ (List.mem_of_getElem? (i := 32) rfl))) (by decide) (t := (.array .int)) (t' := .int) (by decide) (by decide)))
  replace F_edgeCount_a := F_edgeCount_a.other W_51 (Or.inr (slot_ne (Or.inl (hw _ (List.mem_of_getElem? (i := 34) rfl))) (Or.inl (hw _ (List.mem_of_getElem? (i := 32) rfl))) (by decide) (t := .int) (t' := .int) (by decide) (by decide)))
  replace A_pl := A_pl.other W_51 (Ne.symm ne_a_pl)
  replace A_fi := A_fi.other W_51 (Ne.symm ne_a_fi)
  replace A_de := A_de.other W_51 (Ne.symm ne_a_de)
  replace A_ed := A_ed.other W_51 (Ne.symm ne_a_ed)
  replace A_pa := A_pa.other W_51 (Ne.symm ne_a_pa)
  replace A_el := A_el.other W_51 (Ne.symm ne_a_el)
  replace A_sp := A_sp.other W_51 (Ne.symm ne_a_sp)
  replace lt_a := Nat.lt_of_lt_of_le lt_a (Keep.of_wr W_51).1
  replace lt_pl := Nat.lt_of_lt_of_le lt_pl (Keep.of_wr W_51).1
  replace lt_fi := Nat.lt_of_lt_of_le lt_fi (Keep.of_wr W_51).1
  replace lt_de := Nat.lt_of_lt_of_le lt_de (Keep.of_wr W_51).1
  replace lt_ed := Nat.lt_of_lt_of_le lt_ed (Keep.of_wr W_51).1
  replace lt_pa := Nat.lt_of_lt_of_le lt_pa (Keep.of_wr W_51).1
  replace lt_el := Nat.lt_of_lt_of_le lt_el (Keep.of_wr W_51).1
  replace lt_sp := Nat.lt_of_lt_of_le lt_sp (Keep.of_wr W_51).1
  replace Zs := Nat.le_trans Zs (Keep.of_wr W_51).1
  replace Kp := Kp.wr W_51 (Or.inl (by simp))
  replace F_slots_a := F_slots_a.same W_51
  replace Nf := Fr.snoc X_51 Nf g_a
  refine Win.go st_51 ?_
  clear st_51 W_51 X_50 e_50
  show Win p.tables e below _ (T_51.setTop (mkF m 97 #[.val (.ref a), .val (.int p1), .unset] [(.int (1 : Int32))]))
  refine s_istoreN (pc' := 98) (l' := #[.val (.ref a), .val (.int p1), .val (.int (1 : Int32))]) X_51.here hx (hb hby d7_97) rfl rfl ?_
  refine s_aloadN (pc' := 99) X_51.here hx (hb hby d7_98) rfl rfl rfl ?_
  obtain ⟨T_52, X_52, e_52, st_52⟩ := getF X_51 hx hZ hown (host := "") (Or.inl (hw _ (List.mem_of_getElem? (i := 11) rfl))) Via.refl e_51 F_player_a (g := (mkF m 99 #[.val (.ref a), .val (.int p1), .val (.int (1 : Int32))] [(.ref a)])) rfl rfl (hb hby d7_99)
  refine Win.go st_52 ?_
  clear st_52 X_51 e_51
  show Win p.tables e below _ (T_52.setTop (mkF m 102 #[.val (.ref a), .val (.int p1), .val (.int (1 : Int32))] [(.ref pl)]))
  refine s_iloadN (pc' := 103) X_52.here hx (hb hby d7_102) rfl rfl ?_
  refine s_iloadN (pc' := 104) X_52.here hx (hb hby d7_103) rfl rfl ?_
  obtain ⟨cl_53, Ar_53, S_53, G_53⟩ := id A_pl
  have hb_53 : 0 ≤ ((1 : Int32)).toInt ∧ ((1 : Int32)).toInt < 16 := by decide
  obtain ⟨T_53, h_53, X_53, e_53, W_53, st_53⟩ := stI X_52 hx hZ e_52 Ar_53 (j := (1 : Int32)) (AF.inb S_53 hb_53) (g := (mkF m 104 #[.val (.ref a), .val (.int p1), .val (.int (1 : Int32))] [(.int p1), (.int (1 : Int32)), (.ref pl)])) rfl rfl (hb hby d7_104)
  have A_53 : AF Z h_53 pl .int 16 (updF f1 (1 : Int) p1) := AF.set Ar_53 S_53 G_53 W_53 hb_53
  replace E_a := E_a.wr W_53
  replace F_player_a := F_player_a.other W_53 (Or.inl ne_a_pl)
  replace F_first_a := F_first_a.other W_53 (Or.inl ne_a_pl)
  replace F_degree_a := F_degree_a.other W_53 (Or.inl ne_a_pl)
  replace F_edges_a := F_edges_a.other W_53 (Or.inl ne_a_pl)
  replace F_partner_a := F_partner_a.other W_53 (Or.inl ne_a_pl)
  replace F_edgeLeft_a := F_edgeLeft_a.other W_53 (Or.inl ne_a_pl)
  replace F_slotPlus1_a := F_slotPlus1_a.other W_53 (Or.inl ne_a_pl)
  replace F_slots_a := F_slots_a.other W_53 (Or.inl ne_a_pl)
  replace F_edgeCount_a := F_edgeCount_a.other W_53 (Or.inl ne_a_pl)
  replace A_fi := A_fi.other W_53 (Ne.symm ne_pl_fi)
  replace A_de := A_de.other W_53 (Ne.symm ne_pl_de)
  replace A_ed := A_ed.other W_53 (Ne.symm ne_pl_ed)
  replace A_pa := A_pa.other W_53 (Ne.symm ne_pl_pa)
  replace A_el := A_el.other W_53 (Ne.symm ne_pl_el)
  replace A_sp := A_sp.other W_53 (Ne.symm ne_pl_sp)
  replace lt_a := Nat.lt_of_lt_of_le lt_a (Keep.of_wr W_53).1
  replace lt_pl := Nat.lt_of_lt_of_le lt_pl (Keep.of_wr W_53).1
  replace lt_fi := Nat.lt_of_lt_of_le lt_fi (Keep.of_wr W_53).1
  replace lt_de := Nat.lt_of_lt_of_le lt_de (Keep.of_wr W_53).1
  replace lt_ed := Nat.lt_of_lt_of_le lt_ed (Keep.of_wr W_53).1
  replace lt_pa := Nat.lt_of_lt_of_le lt_pa (Keep.of_wr W_53).1
  replace lt_el := Nat.lt_of_lt_of_le lt_el (Keep.of_wr W_53).1
  replace lt_sp := Nat.lt_of_lt_of_le lt_sp (Keep.of_wr W_53).1
  replace Zs := Nat.le_trans Zs (Keep.of_wr W_53).1
  replace Kp := Kp.wr W_53 (Or.inl (by simp))
  replace A_pl := A_53
  replace Nf := Fr.snoc X_53 Nf g_pl
  refine Win.go st_53 ?_
  clear st_53 W_53 A_53 Ar_53 S_53 G_53 hb_53 X_52 e_52
  show Win p.tables e below _ (T_53.setTop (mkF m 105 #[.val (.ref a), .val (.int p1), .val (.int (1 : Int32))] []))
  refine s_aloadN (pc' := 106) X_53.here hx (hb hby d7_105) rfl rfl rfl ?_
  obtain ⟨T_54, X_54, e_54, st_54⟩ := getF X_53 hx hZ hown (host := "") (Or.inl (hw _ (List.mem_of_getElem? (i := 13) rfl))) Via.refl e_53 F_first_a (g := (mkF m 106 #[.val (.ref a), .val (.int p1), .val (.int (1 : Int32))] [(.ref a)])) rfl rfl (hb hby d7_106)
  refine Win.go st_54 ?_
  clear st_54 X_53 e_53
  show Win p.tables e below _ (T_54.setTop (mkF m 109 #[.val (.ref a), .val (.int p1), .val (.int (1 : Int32))] [(.ref fi)]))
  refine s_iloadN (pc' := 110) X_54.here hx (hb hby d7_109) rfl rfl ?_
  refine s_aloadN (pc' := 111) X_54.here hx (hb hby d7_110) rfl rfl rfl ?_
  obtain ⟨T_55, X_55, e_55, st_55⟩ := getF X_54 hx hZ hown (host := "") (Or.inl (hw _ (List.mem_of_getElem? (i := 33) rfl))) Via.refl e_54 F_edgeCount_a (g := (mkF m 111 #[.val (.ref a), .val (.int p1), .val (.int (1 : Int32))] [(.ref a), (.int (1 : Int32)), (.ref fi)])) rfl rfl (hb hby d7_111)
  refine Win.go st_55 ?_
  clear st_55 X_54 e_54
  show Win p.tables e below _ (T_55.setTop (mkF m 114 #[.val (.ref a), .val (.int p1), .val (.int (1 : Int32))] [(.int (1 : Int32)), (.int (1 : Int32)), (.ref fi)]))
  obtain ⟨cl_56, Ar_56, S_56, G_56⟩ := id A_fi
  have hb_56 : 0 ≤ ((1 : Int32)).toInt ∧ ((1 : Int32)).toInt < 16 := by decide
  obtain ⟨T_56, h_56, X_56, e_56, W_56, st_56⟩ := stI X_55 hx hZ e_55 Ar_56 (j := (1 : Int32)) (AF.inb S_56 hb_56) (g := (mkF m 114 #[.val (.ref a), .val (.int p1), .val (.int (1 : Int32))] [(.int (1 : Int32)), (.int (1 : Int32)), (.ref fi)])) rfl rfl (hb hby d7_114)
  have A_56 : AF Z h_56 fi .int 16 (updF f2 (1 : Int) (1 : Int32)) := AF.set Ar_56 S_56 G_56 W_56 hb_56
  replace E_a := E_a.wr W_56
  replace F_player_a := F_player_a.other W_56 (Or.inl ne_a_fi)
  replace F_first_a := F_first_a.other W_56 (Or.inl ne_a_fi)
  replace F_degree_a := F_degree_a.other W_56 (Or.inl ne_a_fi)
  replace F_edges_a := F_edges_a.other W_56 (Or.inl ne_a_fi)
  replace F_partner_a := F_partner_a.other W_56 (Or.inl ne_a_fi)
  replace F_edgeLeft_a := F_edgeLeft_a.other W_56 (Or.inl ne_a_fi)
  replace F_slotPlus1_a := F_slotPlus1_a.other W_56 (Or.inl ne_a_fi)
  replace F_slots_a := F_slots_a.other W_56 (Or.inl ne_a_fi)
  replace F_edgeCount_a := F_edgeCount_a.other W_56 (Or.inl ne_a_fi)
  replace A_de := A_de.other W_56 (Ne.symm ne_fi_de)
  replace A_ed := A_ed.other W_56 (Ne.symm ne_fi_ed)
  replace A_pa := A_pa.other W_56 (Ne.symm ne_fi_pa)
  replace A_el := A_el.other W_56 (Ne.symm ne_fi_el)
  replace A_sp := A_sp.other W_56 (Ne.symm ne_fi_sp)
  replace A_pl := A_pl.other W_56 ne_pl_fi
  replace lt_a := Nat.lt_of_lt_of_le lt_a (Keep.of_wr W_56).1
  replace lt_pl := Nat.lt_of_lt_of_le lt_pl (Keep.of_wr W_56).1
  replace lt_fi := Nat.lt_of_lt_of_le lt_fi (Keep.of_wr W_56).1
  replace lt_de := Nat.lt_of_lt_of_le lt_de (Keep.of_wr W_56).1
  replace lt_ed := Nat.lt_of_lt_of_le lt_ed (Keep.of_wr W_56).1
  replace lt_pa := Nat.lt_of_lt_of_le lt_pa (Keep.of_wr W_56).1
  replace lt_el := Nat.lt_of_lt_of_le lt_el (Keep.of_wr W_56).1
  replace lt_sp := Nat.lt_of_lt_of_le lt_sp (Keep.of_wr W_56).1
  replace Zs := Nat.le_trans Zs (Keep.of_wr W_56).1
  replace Kp := Kp.wr W_56 (Or.inl (by simp))
  replace A_fi := A_56
  replace Nf := Fr.snoc X_56 Nf g_fi
  refine Win.go st_56 ?_
  clear st_56 W_56 A_56 Ar_56 S_56 G_56 hb_56 X_55 e_55
  show Win p.tables e below _ (T_56.setTop (mkF m 115 #[.val (.ref a), .val (.int p1), .val (.int (1 : Int32))] []))
  refine s_aloadN (pc' := 116) X_56.here hx (hb hby d7_115) rfl rfl rfl ?_
  obtain ⟨T_57, X_57, e_57, st_57⟩ := getF X_56 hx hZ hown (host := "") (Or.inl (hw _ (List.mem_of_getElem? (i := 15) rfl))) Via.refl e_56 F_degree_a (g := (mkF m 116 #[.val (.ref a), .val (.int p1), .val (.int (1 : Int32))] [(.ref a)])) rfl rfl (hb hby d7_116)
  refine Win.go st_57 ?_
  clear st_57 X_56 e_56
  show Win p.tables e below _ (T_57.setTop (mkF m 119 #[.val (.ref a), .val (.int p1), .val (.int (1 : Int32))] [(.ref de)]))
  refine s_iloadN (pc' := 120) X_57.here hx (hb hby d7_119) rfl rfl ?_
  refine s_iconst (pc' := 121) (z := (0 : Int32)) X_57.here hx (hb hby d7_120) rfl rfl ?_
  obtain ⟨cl_58, Ar_58, S_58, G_58⟩ := id A_de
  have hb_58 : 0 ≤ ((1 : Int32)).toInt ∧ ((1 : Int32)).toInt < 16 := by decide
  obtain ⟨T_58, h_58, X_58, e_58, W_58, st_58⟩ := stI X_57 hx hZ e_57 Ar_58 (j := (1 : Int32)) (AF.inb S_58 hb_58) (g := (mkF m 121 #[.val (.ref a), .val (.int p1), .val (.int (1 : Int32))] [(.int (0 : Int32)), (.int (1 : Int32)), (.ref de)])) rfl rfl (hb hby d7_121)
  have A_58 : AF Z h_58 de .int 16 (updF f3 (1 : Int) (0 : Int32)) := AF.set Ar_58 S_58 G_58 W_58 hb_58
  replace E_a := E_a.wr W_58
  replace F_player_a := F_player_a.other W_58 (Or.inl ne_a_de)
  replace F_first_a := F_first_a.other W_58 (Or.inl ne_a_de)
  replace F_degree_a := F_degree_a.other W_58 (Or.inl ne_a_de)
  replace F_edges_a := F_edges_a.other W_58 (Or.inl ne_a_de)
  replace F_partner_a := F_partner_a.other W_58 (Or.inl ne_a_de)
  replace F_edgeLeft_a := F_edgeLeft_a.other W_58 (Or.inl ne_a_de)
  replace F_slotPlus1_a := F_slotPlus1_a.other W_58 (Or.inl ne_a_de)
  replace F_slots_a := F_slots_a.other W_58 (Or.inl ne_a_de)
  replace F_edgeCount_a := F_edgeCount_a.other W_58 (Or.inl ne_a_de)
  replace A_ed := A_ed.other W_58 (Ne.symm ne_de_ed)
  replace A_pa := A_pa.other W_58 (Ne.symm ne_de_pa)
  replace A_el := A_el.other W_58 (Ne.symm ne_de_el)
  replace A_sp := A_sp.other W_58 (Ne.symm ne_de_sp)
  replace A_pl := A_pl.other W_58 ne_pl_de
  replace A_fi := A_fi.other W_58 ne_fi_de
  replace lt_a := Nat.lt_of_lt_of_le lt_a (Keep.of_wr W_58).1
  replace lt_pl := Nat.lt_of_lt_of_le lt_pl (Keep.of_wr W_58).1
  replace lt_fi := Nat.lt_of_lt_of_le lt_fi (Keep.of_wr W_58).1
  replace lt_de := Nat.lt_of_lt_of_le lt_de (Keep.of_wr W_58).1
  replace lt_ed := Nat.lt_of_lt_of_le lt_ed (Keep.of_wr W_58).1
  replace lt_pa := Nat.lt_of_lt_of_le lt_pa (Keep.of_wr W_58).1
  replace lt_el := Nat.lt_of_lt_of_le lt_el (Keep.of_wr W_58).1
  replace lt_sp := Nat.lt_of_lt_of_le lt_sp (Keep.of_wr W_58).1
  replace Zs := Nat.le_trans Zs (Keep.of_wr W_58).1
  replace Kp := Kp.wr W_58 (Or.inl (by simp))
  replace A_de := A_58
  replace Nf := Fr.snoc X_58 Nf g_de
  refine Win.go st_58 ?_
  clear st_58 W_58 A_58 Ar_58 S_58 G_58 hb_58 X_57 e_57
  show Win p.tables e below _ (T_58.setTop (mkF m 122 #[.val (.ref a), .val (.int p1), .val (.int (1 : Int32))] []))
  refine s_aloadN (pc' := 123) X_58.here hx (hb hby d7_122) rfl rfl rfl ?_
  obtain ⟨T_59, X_59, e_59, st_59⟩ := getF X_58 hx hZ hown (host := "") (Or.inl (hw _ (List.mem_of_getElem? (i := 19) rfl))) Via.refl e_58 F_partner_a (g := (mkF m 123 #[.val (.ref a), .val (.int p1), .val (.int (1 : Int32))] [(.ref a)])) rfl rfl (hb hby d7_123)
  refine Win.go st_59 ?_
  clear st_59 X_58 e_58
  show Win p.tables e below _ (T_59.setTop (mkF m 126 #[.val (.ref a), .val (.int p1), .val (.int (1 : Int32))] [(.ref pa)]))
  refine s_iloadN (pc' := 127) X_59.here hx (hb hby d7_126) rfl rfl ?_
  refine s_iconst (pc' := 128) (z := (0 : Int32)) X_59.here hx (hb hby d7_127) rfl rfl ?_
  obtain ⟨cl_60, Ar_60, S_60, G_60⟩ := id A_pa
  have hb_60 : 0 ≤ ((1 : Int32)).toInt ∧ ((1 : Int32)).toInt < 16 := by decide
  obtain ⟨T_60, h_60, X_60, e_60, W_60, st_60⟩ := stI X_59 hx hZ e_59 Ar_60 (j := (1 : Int32)) (AF.inb S_60 hb_60) (g := (mkF m 128 #[.val (.ref a), .val (.int p1), .val (.int (1 : Int32))] [(.int (0 : Int32)), (.int (1 : Int32)), (.ref pa)])) rfl rfl (hb hby d7_128)
  have A_60 : AF Z h_60 pa .int 16 (updF f5 (1 : Int) (0 : Int32)) := AF.set Ar_60 S_60 G_60 W_60 hb_60
  replace E_a := E_a.wr W_60
  replace F_player_a := F_player_a.other W_60 (Or.inl ne_a_pa)
  replace F_first_a := F_first_a.other W_60 (Or.inl ne_a_pa)
  replace F_degree_a := F_degree_a.other W_60 (Or.inl ne_a_pa)
  replace F_edges_a := F_edges_a.other W_60 (Or.inl ne_a_pa)
  replace F_partner_a := F_partner_a.other W_60 (Or.inl ne_a_pa)
  replace F_edgeLeft_a := F_edgeLeft_a.other W_60 (Or.inl ne_a_pa)
  replace F_slotPlus1_a := F_slotPlus1_a.other W_60 (Or.inl ne_a_pa)
  replace F_slots_a := F_slots_a.other W_60 (Or.inl ne_a_pa)
  replace F_edgeCount_a := F_edgeCount_a.other W_60 (Or.inl ne_a_pa)
  replace A_ed := A_ed.other W_60 ne_ed_pa
  replace A_el := A_el.other W_60 (Ne.symm ne_pa_el)
  replace A_sp := A_sp.other W_60 (Ne.symm ne_pa_sp)
  replace A_pl := A_pl.other W_60 ne_pl_pa
  replace A_fi := A_fi.other W_60 ne_fi_pa
  replace A_de := A_de.other W_60 ne_de_pa
  replace lt_a := Nat.lt_of_lt_of_le lt_a (Keep.of_wr W_60).1
  replace lt_pl := Nat.lt_of_lt_of_le lt_pl (Keep.of_wr W_60).1
  replace lt_fi := Nat.lt_of_lt_of_le lt_fi (Keep.of_wr W_60).1
  replace lt_de := Nat.lt_of_lt_of_le lt_de (Keep.of_wr W_60).1
  replace lt_ed := Nat.lt_of_lt_of_le lt_ed (Keep.of_wr W_60).1
  replace lt_pa := Nat.lt_of_lt_of_le lt_pa (Keep.of_wr W_60).1
  replace lt_el := Nat.lt_of_lt_of_le lt_el (Keep.of_wr W_60).1
  replace lt_sp := Nat.lt_of_lt_of_le lt_sp (Keep.of_wr W_60).1
  replace Zs := Nat.le_trans Zs (Keep.of_wr W_60).1
  replace Kp := Kp.wr W_60 (Or.inl (by simp))
  replace A_pa := A_60
  replace Nf := Fr.snoc X_60 Nf g_pa
  refine Win.go st_60 ?_
  clear st_60 W_60 A_60 Ar_60 S_60 G_60 hb_60 X_59 e_59
  show Win p.tables e below _ (T_60.setTop (mkF m 129 #[.val (.ref a), .val (.int p1), .val (.int (1 : Int32))] []))
  refine s_aloadN (pc' := 130) X_60.here hx (hb hby d7_129) rfl rfl rfl ?_
  obtain ⟨T_61, X_61, e_61, st_61⟩ := getF X_60 hx hZ hown (host := "") (Or.inl (hw _ (List.mem_of_getElem? (i := 22) rfl))) Via.refl e_60 F_edgeLeft_a (g := (mkF m 130 #[.val (.ref a), .val (.int p1), .val (.int (1 : Int32))] [(.ref a)])) rfl rfl (hb hby d7_130)
  refine Win.go st_61 ?_
  clear st_61 X_60 e_60
  show Win p.tables e below _ (T_61.setTop (mkF m 133 #[.val (.ref a), .val (.int p1), .val (.int (1 : Int32))] [(.ref el)]))
  refine s_iloadN (pc' := 134) X_61.here hx (hb hby d7_133) rfl rfl ?_
  refine s_iconst (pc' := 135) (z := (0 : Int32)) X_61.here hx (hb hby d7_134) rfl rfl ?_
  obtain ⟨cl_62, Ar_62, S_62, G_62⟩ := id A_el
  have hb_62 : 0 ≤ ((1 : Int32)).toInt ∧ ((1 : Int32)).toInt < 16 := by decide
  obtain ⟨T_62, h_62, X_62, e_62, W_62, st_62⟩ := stZ X_61 hx hZ e_61 Ar_62 (j := (1 : Int32)) (AF.inb S_62 hb_62) (g := (mkF m 135 #[.val (.ref a), .val (.int p1), .val (.int (1 : Int32))] [(.int (0 : Int32)), (.int (1 : Int32)), (.ref el)])) rfl rfl (hb hby d7_135)
  have A_62 : AF Z h_62 el .boolean 16 (updF f6 (1 : Int) (0 : Int32)) := AF.set Ar_62 S_62 G_62 W_62 hb_62
  replace E_a := E_a.wr W_62
  replace F_player_a := F_player_a.other W_62 (Or.inl ne_a_el)
  replace F_first_a := F_first_a.other W_62 (Or.inl ne_a_el)
  replace F_degree_a := F_degree_a.other W_62 (Or.inl ne_a_el)
  replace F_edges_a := F_edges_a.other W_62 (Or.inl ne_a_el)
  replace F_partner_a := F_partner_a.other W_62 (Or.inl ne_a_el)
  replace F_edgeLeft_a := F_edgeLeft_a.other W_62 (Or.inl ne_a_el)
  replace F_slotPlus1_a := F_slotPlus1_a.other W_62 (Or.inl ne_a_el)
  replace F_slots_a := F_slots_a.other W_62 (Or.inl ne_a_el)
  replace F_edgeCount_a := F_edgeCount_a.other W_62 (Or.inl ne_a_el)
  replace A_ed := A_ed.other W_62 ne_ed_el
  replace A_sp := A_sp.other W_62 (Ne.symm ne_el_sp)
  replace A_pl := A_pl.other W_62 ne_pl_el
  replace A_fi := A_fi.other W_62 ne_fi_el
  replace A_de := A_de.other W_62 ne_de_el
  replace A_pa := A_pa.other W_62 ne_pa_el
  replace lt_a := Nat.lt_of_lt_of_le lt_a (Keep.of_wr W_62).1
  replace lt_pl := Nat.lt_of_lt_of_le lt_pl (Keep.of_wr W_62).1
  replace lt_fi := Nat.lt_of_lt_of_le lt_fi (Keep.of_wr W_62).1
  replace lt_de := Nat.lt_of_lt_of_le lt_de (Keep.of_wr W_62).1
  replace lt_ed := Nat.lt_of_lt_of_le lt_ed (Keep.of_wr W_62).1
  replace lt_pa := Nat.lt_of_lt_of_le lt_pa (Keep.of_wr W_62).1
  replace lt_el := Nat.lt_of_lt_of_le lt_el (Keep.of_wr W_62).1
  replace lt_sp := Nat.lt_of_lt_of_le lt_sp (Keep.of_wr W_62).1
  replace Zs := Nat.le_trans Zs (Keep.of_wr W_62).1
  replace Kp := Kp.wr W_62 (Or.inl (by simp))
  replace A_el := A_62
  replace Nf := Fr.snoc X_62 Nf g_el
  refine Win.go st_62 ?_
  clear st_62 W_62 A_62 Ar_62 S_62 G_62 hb_62 X_61 e_61
  show Win p.tables e below _ (T_62.setTop (mkF m 136 #[.val (.ref a), .val (.int p1), .val (.int (1 : Int32))] []))
  refine s_aloadN (pc' := 137) X_62.here hx (hb hby d7_136) rfl rfl rfl ?_
  obtain ⟨T_63, X_63, e_63, st_63⟩ := getF X_62 hx hZ hown (host := "") (Or.inl (hw _ (List.mem_of_getElem? (i := 24) rfl))) Via.refl e_62 F_slotPlus1_a (g := (mkF m 137 #[.val (.ref a), .val (.int p1), .val (.int (1 : Int32))] [(.ref a)])) rfl rfl (hb hby d7_137)
  refine Win.go st_63 ?_
  clear st_63 X_62 e_62
  show Win p.tables e below _ (T_63.setTop (mkF m 140 #[.val (.ref a), .val (.int p1), .val (.int (1 : Int32))] [(.ref sp)]))
  refine s_iloadN (pc' := 141) X_63.here hx (hb hby d7_140) rfl rfl ?_
  refine s_iloadN (pc' := 142) X_63.here hx (hb hby d7_141) rfl rfl ?_
  refine s_iconst (pc' := 143) (z := (1 : Int32)) X_63.here hx (hb hby d7_142) rfl rfl ?_
  refine Win.go (fun _ k => XS.iadd X_63.here hx rfl (hb hby d7_143) rfl k) ?_
  show Win p.tables e below _ (T_63.setTop (mkF m 144 #[.val (.ref a), .val (.int p1), .val (.int (1 : Int32))] [(.int (2 : Int32)), (.int p1), (.ref sp)]))
  obtain ⟨cl_64, Ar_64, S_64, G_64⟩ := id A_sp
  have hb_64 : 0 ≤ (p1).toInt ∧ (p1).toInt < 8 := by omega
  obtain ⟨T_64, h_64, X_64, e_64, W_64, st_64⟩ := stI X_63 hx hZ e_63 Ar_64 (j := p1) (AF.inb S_64 hb_64) (g := (mkF m 144 #[.val (.ref a), .val (.int p1), .val (.int (1 : Int32))] [(.int (2 : Int32)), (.int p1), (.ref sp)])) rfl rfl (hb hby d7_144)
  have A_64 : AF Z h_64 sp .int 8 (updF g (p1).toInt (2 : Int32)) := AF.set Ar_64 S_64 G_64 W_64 hb_64
  replace E_a := E_a.wr W_64
  replace F_player_a := F_player_a.other W_64 (Or.inl ne_a_sp)
  replace F_first_a := F_first_a.other W_64 (Or.inl ne_a_sp)
  replace F_degree_a := F_degree_a.other W_64 (Or.inl ne_a_sp)
  replace F_edges_a := F_edges_a.other W_64 (Or.inl ne_a_sp)
  replace F_partner_a := F_partner_a.other W_64 (Or.inl ne_a_sp)
  replace F_edgeLeft_a := F_edgeLeft_a.other W_64 (Or.inl ne_a_sp)
  replace F_slotPlus1_a := F_slotPlus1_a.other W_64 (Or.inl ne_a_sp)
  replace F_slots_a := F_slots_a.other W_64 (Or.inl ne_a_sp)
  replace F_edgeCount_a := F_edgeCount_a.other W_64 (Or.inl ne_a_sp)
  replace A_ed := A_ed.other W_64 ne_ed_sp
  replace A_pl := A_pl.other W_64 ne_pl_sp
  replace A_fi := A_fi.other W_64 ne_fi_sp
  replace A_de := A_de.other W_64 ne_de_sp
  replace A_pa := A_pa.other W_64 ne_pa_sp
  replace A_el := A_el.other W_64 ne_el_sp
  replace lt_a := Nat.lt_of_lt_of_le lt_a (Keep.of_wr W_64).1
  replace lt_pl := Nat.lt_of_lt_of_le lt_pl (Keep.of_wr W_64).1
  replace lt_fi := Nat.lt_of_lt_of_le lt_fi (Keep.of_wr W_64).1
  replace lt_de := Nat.lt_of_lt_of_le lt_de (Keep.of_wr W_64).1
  replace lt_ed := Nat.lt_of_lt_of_le lt_ed (Keep.of_wr W_64).1
  replace lt_pa := Nat.lt_of_lt_of_le lt_pa (Keep.of_wr W_64).1
  replace lt_el := Nat.lt_of_lt_of_le lt_el (Keep.of_wr W_64).1
  replace lt_sp := Nat.lt_of_lt_of_le lt_sp (Keep.of_wr W_64).1
  replace Zs := Nat.le_trans Zs (Keep.of_wr W_64).1
  replace Kp := Kp.wr W_64 (Or.inl (by simp))
  replace A_sp := A_64
  replace Nf := Fr.snoc X_64 Nf g_sp
  refine Win.go st_64 ?_
  clear st_64 W_64 A_64 Ar_64 S_64 G_64 hb_64 X_63 e_63
  show Win p.tables e below _ (T_64.setTop (mkF m 145 #[.val (.ref a), .val (.int p1), .val (.int (1 : Int32))] []))
  refine s_iloadN (pc' := 146) X_64.here hx (hb hby d7_145) rfl rfl ?_
  refine winI X_64 hx hlk e_64 Bd.returns (hb hby d7_146) (by decide) (by decide) ?_
  exact ⟨Nf, Kp, F_player_a, F_first_a, F_degree_a, F_edges_a, F_partner_a, F_edgeLeft_a, F_slotPlus1_a, F_slots_a, F_edgeCount_a, A_pl, A_fi, A_de, A_pa, A_el, A_sp, rfl⟩
theorem ef_6_1 (m : MethodId) (a : Addr) (p1 : Int32) (p2 : Int32) : entryFrame m #[(.ref a), (.int p1), (.int p2)] 4 = mkF m 0 #[.val (.ref a), .val (.int p1), .val (.int p2), .unset] [] := by first | (simp [entryFrame, mkF, argsToLocals, Value.category]; done) | rfl
def Q6_1 (Z : State) (a : Addr) (p1 : Int32) (p2 : Int32) (pl : Addr) (fi : Addr) (de : Addr) (ed : Addr) (pa : Addr) (el : Addr) (sp : Addr) (f1 : Int → Int32) (f2 : Int → Int32) (f3 : Int → Int32) (f4 : Int → Int32) (f5 : Int → Int32) (f6 : Int → Int32) (g : Int → Int32) (h0 : Heap) (n0 : Nat) (v : Option Value) (h : Heap) (L : List Loc) : Prop := Fr n0 L ∧ Keep h0 h [a, pl, fi, de, ed, pa, el, sp] ∧ Fld Z h a "com/example/nearstable/nearstable/maximal/Players" "player" "[I" (.ref pl) ∧ Fld Z h a "com/example/nearstable/nearstable/maximal/Players" "first" "[I" (.ref fi) ∧ Fld Z h a "com/example/nearstable/nearstable/maximal/Players" "degree" "[I" (.ref de) ∧ Fld Z h a "com/example/nearstable/nearstable/maximal/Players" "edges" "[I" (.ref ed) ∧ Fld Z h a "com/example/nearstable/nearstable/maximal/Players" "partner" "[I" (.ref pa) ∧ Fld Z h a "com/example/nearstable/nearstable/maximal/Players" "edgeLeft" "[Z" (.ref el) ∧ Fld Z h a "com/example/nearstable/nearstable/maximal/Players" "slotPlus1" "[I" (.ref sp) ∧ Fld Z h a "com/example/nearstable/nearstable/maximal/Players" "slots" "I" (.int (2 : Int32)) ∧ Fld Z h a "com/example/nearstable/nearstable/maximal/Players" "edgeCount" "I" (.int (2 : Int32)) ∧ AF Z h pl .int 16 (updF f1 (1 : Int) p1) ∧ AF Z h fi .int 16 (updF f2 (1 : Int) (1 : Int32)) ∧ AF Z h de .int 16 (updF (updF f3 (1 : Int) (0 : Int32)) (1 : Int) ((updF f3 (1 : Int) (0 : Int32)) (1 : Int) + (1 : Int32))) ∧ AF Z h ed .int 16 (updF f4 (1 : Int) p2) ∧ AF Z h pa .int 16 (updF f5 (1 : Int) (0 : Int32)) ∧ AF Z h el .boolean 16 (updF f6 (1 : Int) (0 : Int32)) ∧ AF Z h sp .int 8 (updF g (p1).toInt (2 : Int32)) ∧ v = none
set_option maxRecDepth 65536 in
set_option maxHeartbeats 40000000 in
theorem rm6_1 (l : Launch) (Z : State) (a0 : Array Value) (hw : ∀ d ∈ tables_1, d.before a0 Z = true) (ws : List Jvm.Cond) (a : Addr) (p1 : Int32) (p2 : Int32) (pl : Addr) (fi : Addr) (de : Addr) (ed : Addr) (pa : Addr) (el : Addr) (sp : Addr) (f1 : Int → Int32) (f2 : Int → Int32) (f3 : Int → Int32) (f4 : Int → Int32) (f5 : Int → Int32) (f6 : Int → Int32) (g : Int → Int32) (h0 : Heap) (n0 : Nat) (Zs : n0 ≤ h0.size) (E_a : Exa Z h0 a "com/example/nearstable/nearstable/maximal/Players") (F_player_a : Fld Z h0 a "com/example/nearstable/nearstable/maximal/Players" "player" "[I" (.ref pl)) (F_first_a : Fld Z h0 a "com/example/nearstable/nearstable/maximal/Players" "first" "[I" (.ref fi)) (F_degree_a : Fld Z h0 a "com/example/nearstable/nearstable/maximal/Players" "degree" "[I" (.ref de)) (F_edges_a : Fld Z h0 a "com/example/nearstable/nearstable/maximal/Players" "edges" "[I" (.ref ed)) (F_partner_a : Fld Z h0 a "com/example/nearstable/nearstable/maximal/Players" "partner" "[I" (.ref pa)) (F_edgeLeft_a : Fld Z h0 a "com/example/nearstable/nearstable/maximal/Players" "edgeLeft" "[Z" (.ref el)) (F_slotPlus1_a : Fld Z h0 a "com/example/nearstable/nearstable/maximal/Players" "slotPlus1" "[I" (.ref sp)) (F_slots_a : Fld Z h0 a "com/example/nearstable/nearstable/maximal/Players" "slots" "I" (.int (1 : Int32))) (F_edgeCount_a : Fld Z h0 a "com/example/nearstable/nearstable/maximal/Players" "edgeCount" "I" (.int (1 : Int32))) (A_pl : AF Z h0 pl .int 16 f1) (A_fi : AF Z h0 fi .int 16 f2) (A_de : AF Z h0 de .int 16 f3) (A_ed : AF Z h0 ed .int 16 f4) (A_pa : AF Z h0 pa .int 16 f5) (A_el : AF Z h0 el .boolean 16 f6) (A_sp : AF Z h0 sp .int 8 g) (g_a : n0 ≤ a) (g_pl : n0 ≤ pl) (g_fi : n0 ≤ fi) (g_de : n0 ≤ de) (g_ed : n0 ≤ ed) (g_pa : n0 ≤ pa) (g_el : n0 ≤ el) (g_sp : n0 ≤ sp) (ne_a_pl : a ≠ pl) (ne_a_fi : a ≠ fi) (ne_a_de : a ≠ de) (ne_a_ed : a ≠ ed) (ne_a_pa : a ≠ pa) (ne_a_el : a ≠ el) (ne_a_sp : a ≠ sp) (ne_pl_fi : pl ≠ fi) (ne_pl_de : pl ≠ de) (ne_pl_ed : pl ≠ ed) (ne_pl_pa : pl ≠ pa) (ne_pl_el : pl ≠ el) (ne_pl_sp : pl ≠ sp) (ne_fi_de : fi ≠ de) (ne_fi_ed : fi ≠ ed) (ne_fi_pa : fi ≠ pa) (ne_fi_el : fi ≠ el) (ne_fi_sp : fi ≠ sp) (ne_de_ed : de ≠ ed) (ne_de_pa : de ≠ pa) (ne_de_el : de ≠ el) (ne_de_sp : de ≠ sp) (ne_ed_pa : ed ≠ pa) (ne_ed_el : ed ≠ el) (ne_ed_sp : ed ≠ sp) (ne_pa_el : pa ≠ el) (ne_pa_sp : pa ≠ sp) (ne_el_sp : el ≠ sp) (hbd : 0 ≤ p1.toInt ∧ p1.toInt < 8) (hg : g p1.toInt = 0) :
    MetFree l (⟨"com/example/nearstable/nearstable/maximal/Players", "add", "(II)V"⟩ : MethodName) (head1 (Jvm.Cond.code (⟨"com/example/nearstable/nearstable/maximal/Players", "add", "(II)V"⟩ : MethodName) prog_53_method_2_code 4 none :: ws) ({ frames := 1, cells := 0, slots := 0, locals := 14 } : Room)) (fun as' U => as' = #[(.ref a), (.int p1), (.int p2)] ∧ Z.Warmed39 U.vm ∧ U.heap = h0) (fun _ _ _ _ _ => True) (fun _ U o U' => ∃ v L, o = .returned v ∧ Q6_1 Z a p1 p2 pl fi de ed pa el sp f1 f2 f3 f4 f5 f6 g h0 n0 v U'.heap L ∧ FrameEnd U o U' L ({ frames := 1, cells := 0, slots := 0, locals := 14 } : Room).cells ({ frames := 1, cells := 0, slots := 0, locals := 14 } : Room).slots) := by
  refine MetFree.of_bodySF (plainFor_of_name pn_1) hisR ?_
  intro p e s m args below meth c s₁ Bd hml0 hP hK
  obtain ⟨rfl, hZ, hh⟩ := hP
  have hx := Bd.exec
  have hby := Bd.bytes
  have hml : c.maxLocals = 4 := hml0
  have hown : s.vm.findClass "com/example/nearstable/nearstable/maximal/Players" = some m.cls := findClass_of_methodNamed Bd.named
  have hnm := (name_of_methodNamed Bd.named Bd.method).1
  have hlk : meth.locks = false := Bd.notSynchronized
  have X0 : Stand p l e ({ frames := 1, cells := 0, slots := 0, locals := 14 } : Room) s m #[(.ref a), (.int p1), (.int p2)] below meth c s₁ [] 0 0 := Stand.of_body Bd
  have e0 : s₁.heap = h0 := by rw [← hh, Bd.state]; rfl
  have Nf := Fr.nil n0
  refine (?_ : Win p.tables e below (PostQ s (Q6_1 Z a p1 p2 pl fi de ed pa el sp f1 f2 f3 f4 f5 f6 g h0 n0) ({ frames := 1, cells := 0, slots := 0, locals := 14 } : Room).cells ({ frames := 1, cells := 0, slots := 0, locals := 14 } : Room).slots) (s₁.setTop (entryFrame m #[(.ref a), (.int p1), (.int p2)] 4)))
  rw [ef_6_1]
  have Kp : Keep h0 h0 [a, pl, fi, de, ed, pa, el, sp] := Keep.refl h0 _
  have lt_a : a < h0.size := E_a.lt
  have lt_pl : pl < h0.size := A_pl.lt
  have lt_fi : fi < h0.size := A_fi.lt
  have lt_de : de < h0.size := A_de.lt
  have lt_ed : ed < h0.size := A_ed.lt
  have lt_pa : pa < h0.size := A_pa.lt
  have lt_el : el < h0.size := A_el.lt
  have lt_sp : sp < h0.size := A_sp.lt
  show Win p.tables e below _ (s₁.setTop (mkF m 0 #[.val (.ref a), .val (.int p1), .val (.int p2), .unset] []))
  refine s_aloadN (pc' := 1) X0.here hx (hb hby d6_0) rfl rfl rfl ?_
  obtain ⟨T_65, X_65, e_65, st_65⟩ := getF X0 hx hZ hown (host := "") (Or.inl (hw _ (List.mem_of_getElem? (i := 24) rfl))) Via.refl e0 F_slotPlus1_a (g := (mkF m 1 #[.val (.ref a), .val (.int p1), .val (.int p2), .unset] [(.ref a)])) rfl rfl (hb hby d6_1)
  refine Win.go st_65 ?_
  clear st_65 X0 e0
  show Win p.tables e below _ (T_65.setTop (mkF m 4 #[.val (.ref a), .val (.int p1), .val (.int p2), .unset] [(.ref sp)]))
  refine s_iloadN (pc' := 5) X_65.here hx (hb hby d6_4) rfl rfl ?_
  obtain ⟨cl_66, Ar_66, S_66, G_66⟩ := id A_sp
  have hb_66 : 0 ≤ (p1).toInt ∧ (p1).toInt < 8 := by omega
  refine Win.go (fun _ k => X_65.iaload hx (j := p1) (v := (.int (g (p1).toInt))) (by rw [e_65]; exact Ar_66.1) (State.isArrayOf_alike hZ.alike Ar_66.2.1) Ar_66.2.2 (AF.inb S_66 hb_66) (G_66 _ hb_66.1 hb_66.2) (g := (mkF m 5 #[.val (.ref a), .val (.int p1), .val (.int p2), .unset] [(.int p1), (.ref sp)])) rfl rfl (hb hby d6_5) _ k) ?_
  show Win p.tables e below _ (T_65.setTop (mkF m 6 #[.val (.ref a), .val (.int p1), .val (.int p2), .unset] [(.int (g (p1).toInt))]))
  clear Ar_66 S_66 G_66 hb_66
  refine s_iconst (pc' := 7) (z := (1 : Int32)) X_65.here hx (hb hby d6_6) rfl rfl ?_
  refine s_isub (pc' := 8) X_65.here hx (hb hby d6_7) rfl ?_
  refine s_istoreN (pc' := 9) (l' := #[.val (.ref a), .val (.int p1), .val (.int p2), .val (.int ((g (p1).toInt) - (1 : Int32)))]) X_65.here hx (hb hby d6_8) rfl rfl ?_
  generalize hsl : ((g (p1).toInt) - (1 : Int32)) = sl
  show Win p.tables e below _ (T_65.setTop (mkF m 9 #[.val (.ref a), .val (.int p1), .val (.int p2), .val (.int sl)] []))
  have hsl' : sl.toInt = -1 := by rw [← hsl, hg]; rfl
  refine s_iloadN (pc' := 10) X_65.here hx (hb hby d6_9) rfl rfl ?_
  by_cases hc10 : (sl).toInt < (0 : Int)
  · skip
    refine s_ifNo (pc' := 13) X_65.here hx (hb hby d6_10) rfl ((if0 _ _).trans (tltI (x := sl) (y := (0 : Int32)) hc10).2.1) ?_
    refine s_aloadN (pc' := 14) X_65.here hx (hb hby d6_13) rfl rfl rfl ?_
    refine s_iloadN (pc' := 15) X_65.here hx (hb hby d6_14) rfl rfl ?_
    obtain ⟨cq_67, q_67, q_67'⟩ := E_a.cell
    obtain ⟨_, _, ⟨T_67, L_67, k_67, n_67⟩, -, X_67, ⟨Lc_67, hQ_67, l_67, y_67, z_67⟩, st_67⟩ := X_65.privateBack hx (y := (⟨"com/example/nearstable/nearstable/maximal/Players", "newSlot", "(I)I"⟩ : MethodName)) hown (mvT hZ (hw _ (List.mem_of_getElem? (i := 50) rfl))) (mvT hZ (hw _ (List.mem_of_getElem? (i := 51) rfl))) (own_selPriv (y := (⟨"com/example/nearstable/nearstable/maximal/Players", "newSlot", "(I)I"⟩ : MethodName)) (y' := (⟨"com/example/nearstable/nearstable/maximal/Players", "clear", "()V"⟩ : MethodName)) rfl (mvT hZ (hw _ (List.mem_of_getElem? (i := 29) rfl))) (Cond.privateMethod_at (mvP hZ (hw _ (List.mem_of_getElem? (i := 52) rfl)) (args := #[]))) (mvT hZ (hw _ (List.mem_of_getElem? (i := 51) rfl))) (by decide)) (Cond.privateMethod_at (mvP hZ (hw _ (List.mem_of_getElem? (i := 52) rfl)) (args := #[]))) (mvT hZ (hw _ (List.mem_of_getElem? (i := 53) rfl))) (by decide) (backOf (W := 0) (rm7_1 l Z a0 hw [] a p1 pl fi de ed pa el sp f1 f2 f3 f4 f5 f6 g h0 n0 Zs E_a F_player_a F_first_a F_degree_a F_edges_a F_partner_a F_edgeLeft_a F_slotPlus1_a F_slots_a F_edgeCount_a A_pl A_fi A_de A_ed A_pa A_el A_sp g_a g_pl g_fi g_de g_ed g_pa g_el g_sp ne_a_pl ne_a_fi ne_a_de ne_a_ed ne_a_pa ne_a_el ne_a_sp ne_pl_fi ne_pl_de ne_pl_ed ne_pl_pa ne_pl_el ne_pl_sp ne_fi_de ne_fi_ed ne_fi_pa ne_fi_el ne_fi_sp ne_de_ed ne_de_pa ne_de_el ne_de_sp ne_ed_pa ne_ed_el ne_ed_sp ne_pa_el ne_pa_sp ne_el_sp hbd) hZ (hw _ (List.mem_of_getElem? (i := 53) rfl)) (hw _ (List.mem_of_getElem? (i := 3) rfl)) (by decide) (by decide)) (g := (mkF m 15 #[.val (.ref a), .val (.int p1), .val (.int p2), .val (.int sl)] [(.int p1), (.ref a)])) rfl (by rw [hml]; rfl) (Steps.refl _) (a := a) (by rw [e_65]; exact q_67) q_67' (argsL := [(.int p1)]) (rest := []) (lenOf pd_0 rfl) rfl (by show 2 * 0 + _ ≤ _; exact Nat.le_of_eq rfl) (hb hby d6_15) (fun _ _ => ⟨rfl, e_65, (by decide : 0 + 0 ≤ _), (by decide : 0 + 0 ≤ _)⟩)
    dsimp only [Pt.U, Pt.locs, Pt.cells, Pt.slots] at X_67 l_67 y_67 z_67 st_67 hQ_67
    subst l_67 y_67 z_67
    obtain ⟨h_67, e_67⟩ : ∃ z, T_67.heap = z := ⟨_, rfl⟩
    rw [e_67] at hQ_67
    obtain ⟨Nq_67, K_67, n_67_F_player_a, n_67_F_first_a, n_67_F_degree_a, n_67_F_edges_a, n_67_F_partner_a, n_67_F_edgeLeft_a, n_67_F_slotPlus1_a, n_67_F_slots_a, n_67_F_edgeCount_a, n_67_A_pl, n_67_A_fi, n_67_A_de, n_67_A_pa, n_67_A_el, n_67_A_sp, rfl⟩ := hQ_67
    replace Nf := Fr.app Nf Nq_67
    replace E_a := E_a.keep K_67
    clear F_player_a
    clear F_first_a
    clear F_degree_a
    clear F_edges_a
    clear F_partner_a
    clear F_edgeLeft_a
    clear F_slotPlus1_a
    clear F_slots_a
    clear F_edgeCount_a
    clear A_pl
    clear A_fi
    clear A_de
    replace A_ed := A_ed.keep K_67 (ninS (Ne.symm ne_a_ed) (ninS (Ne.symm ne_pl_ed) (ninS (Ne.symm ne_fi_ed) (ninS (Ne.symm ne_de_ed) (ninS ne_ed_pa (ninS ne_ed_el (ninS ne_ed_sp nin0)))))))
    clear A_pa
    clear A_el
    clear A_sp
    replace lt_a := Nat.lt_of_lt_of_le lt_a K_67.1
    replace lt_pl := Nat.lt_of_lt_of_le lt_pl K_67.1
    replace lt_fi := Nat.lt_of_lt_of_le lt_fi K_67.1
    replace lt_de := Nat.lt_of_lt_of_le lt_de K_67.1
    replace lt_ed := Nat.lt_of_lt_of_le lt_ed K_67.1
    replace lt_pa := Nat.lt_of_lt_of_le lt_pa K_67.1
    replace lt_el := Nat.lt_of_lt_of_le lt_el K_67.1
    replace lt_sp := Nat.lt_of_lt_of_le lt_sp K_67.1
    replace Zs := Nat.le_trans Zs K_67.1
    replace Kp := Kp.trans K_67 (allS (Or.inl (by simp)) (allS (Or.inl (by simp)) (allS (Or.inl (by simp)) (allS (Or.inl (by simp)) (allS (Or.inl (by simp)) (allS (Or.inl (by simp)) (allS (Or.inl (by simp)) all0)))))))
    have F_player_a := n_67_F_player_a
    have F_first_a := n_67_F_first_a
    have F_degree_a := n_67_F_degree_a
    have F_edges_a := n_67_F_edges_a
    have F_partner_a := n_67_F_partner_a
    have F_edgeLeft_a := n_67_F_edgeLeft_a
    have F_slotPlus1_a := n_67_F_slotPlus1_a
    have F_slots_a := n_67_F_slots_a
    have F_edgeCount_a := n_67_F_edgeCount_a
    have A_pl := n_67_A_pl
    have A_fi := n_67_A_fi
    have A_de := n_67_A_de
    have A_pa := n_67_A_pa
    have A_el := n_67_A_el
    have A_sp := n_67_A_sp
    refine Win.come st_67 ?_
    clear st_67 Nq_67 X_65 e_65 K_67
    show Win p.tables e below _ (T_67.setTop (mkF m 18 #[.val (.ref a), .val (.int p1), .val (.int p2), .val (.int sl)] [(.int (1 : Int32))]))
    refine s_istoreN (pc' := 19) (l' := #[.val (.ref a), .val (.int p1), .val (.int p2), .val (.int (1 : Int32))]) X_67.here hx (hb hby d6_18) rfl rfl ?_
    refine s_goto (pc' := 61) X_67.here hx (hb hby d6_19) (by decide) (by decide) ?_
    refine s_aloadN (pc' := 62) X_67.here hx (hb hby d6_61) rfl rfl rfl ?_
    obtain ⟨T_68, X_68, e_68, st_68⟩ := getF X_67 hx hZ hown (host := "") (Or.inl (hw _ (List.mem_of_getElem? (i := 33) rfl))) Via.refl e_67 F_edgeCount_a (g := (mkF m 62 #[.val (.ref a), .val (.int p1), .val (.int p2), .val (.int (1 : Int32))] [(.ref a)])) rfl rfl (hb hby d6_62)
    refine Win.go st_68 ?_
    clear st_68 X_67 e_67
    show Win p.tables e below _ (T_68.setTop (mkF m 65 #[.val (.ref a), .val (.int p1), .val (.int p2), .val (.int (1 : Int32))] [(.int (1 : Int32))]))
    refine s_aloadN (pc' := 66) X_68.here hx (hb hby d6_65) rfl rfl rfl ?_
    obtain ⟨T_69, X_69, e_69, st_69⟩ := getF X_68 hx hZ hown (host := "") (Or.inl (hw _ (List.mem_of_getElem? (i := 17) rfl))) Via.refl e_68 F_edges_a (g := (mkF m 66 #[.val (.ref a), .val (.int p1), .val (.int p2), .val (.int (1 : Int32))] [(.ref a), (.int (1 : Int32))])) rfl rfl (hb hby d6_66)
    refine Win.go st_69 ?_
    clear st_69 X_68 e_68
    show Win p.tables e below _ (T_69.setTop (mkF m 69 #[.val (.ref a), .val (.int p1), .val (.int p2), .val (.int (1 : Int32))] [(.ref ed), (.int (1 : Int32))]))
    obtain ⟨cl_70, Ar_70, S_70, G_70⟩ := id A_ed
    refine Win.go (fun _ k => X_69.arraylength hx (by rw [e_69]; exact Ar_70.1) (State.isArrayOf_alike hZ.alike Ar_70.2.1) (g := (mkF m 69 #[.val (.ref a), .val (.int p1), .val (.int p2), .val (.int (1 : Int32))] [(.ref ed), (.int (1 : Int32))])) rfl rfl (hb hby d6_69) _ k) ?_
    rw [S_70]
    clear Ar_70 S_70 G_70
    show Win p.tables e below _ (T_69.setTop (mkF m 70 #[.val (.ref a), .val (.int p1), .val (.int p2), .val (.int (1 : Int32))] [(.int (16 : Int32)), (.int (1 : Int32))]))
    refine s_icmpYes (pc' := 97) X_69.here hx (hb hby d6_70) (feqI (x := (1 : Int32)) (y := (16 : Int32)) (by decide)).2 (by decide) (by decide) ?_
    refine s_aloadN (pc' := 98) X_69.here hx (hb hby d6_97) rfl rfl rfl ?_
    obtain ⟨T_71, X_71, e_71, st_71⟩ := getF X_69 hx hZ hown (host := "") (Or.inl (hw _ (List.mem_of_getElem? (i := 17) rfl))) Via.refl e_69 F_edges_a (g := (mkF m 98 #[.val (.ref a), .val (.int p1), .val (.int p2), .val (.int (1 : Int32))] [(.ref a)])) rfl rfl (hb hby d6_98)
    refine Win.go st_71 ?_
    clear st_71 X_69 e_69
    show Win p.tables e below _ (T_71.setTop (mkF m 101 #[.val (.ref a), .val (.int p1), .val (.int p2), .val (.int (1 : Int32))] [(.ref ed)]))
    refine s_aloadN (pc' := 102) X_71.here hx (hb hby d6_101) rfl rfl rfl ?_
    refine s_dup (pc' := 103) X_71.here hx (hb hby d6_102) rfl rfl ?_
    obtain ⟨T_72, X_72, e_72, st_72⟩ := getF X_71 hx hZ hown (host := "") (Or.inl (hw _ (List.mem_of_getElem? (i := 33) rfl))) Via.refl e_71 F_edgeCount_a (g := (mkF m 103 #[.val (.ref a), .val (.int p1), .val (.int p2), .val (.int (1 : Int32))] [(.ref a), (.ref a), (.ref ed)])) rfl rfl (hb hby d6_103)
    refine Win.go st_72 ?_
    clear st_72 X_71 e_71
    show Win p.tables e below _ (T_72.setTop (mkF m 106 #[.val (.ref a), .val (.int p1), .val (.int p2), .val (.int (1 : Int32))] [(.int (1 : Int32)), (.ref a), (.ref ed)]))
    refine Win.go (fun _ k => XS.dupX1 X_72.here hx rfl (hb hby d6_106) rfl rfl rfl k) ?_
    show Win p.tables e below _ (T_72.setTop (mkF m 107 #[.val (.ref a), .val (.int p1), .val (.int p2), .val (.int (1 : Int32))] [(.int (1 : Int32)), (.ref a), (.int (1 : Int32)), (.ref ed)]))
    refine s_iconst (pc' := 108) (z := (1 : Int32)) X_72.here hx (hb hby d6_107) rfl rfl ?_
    refine Win.go (fun _ k => XS.iadd X_72.here hx rfl (hb hby d6_108) rfl k) ?_
    show Win p.tables e below _ (T_72.setTop (mkF m 109 #[.val (.ref a), .val (.int p1), .val (.int p2), .val (.int (1 : Int32))] [(.int (2 : Int32)), (.ref a), (.int (1 : Int32)), (.ref ed)]))
    obtain ⟨T_73, h_73, X_73, e_73, W_73, st_73⟩ := putF X_72 hx hZ hown (host := "") (Or.inl (hw _ (List.mem_of_getElem? (i := 33) rfl))) Via.refl e_72 F_edgeCount_a E_a (Or.inl (hw _ (List.mem_of_getElem? (i := 34) rfl))) (hw _ (List.mem_of_getElem? (i := 2) rfl)) (ty := .int) (by decide) rfl rfl (g := (mkF m 109 #[.val (.ref a), .val (.int p1), .val (.int p2), .val (.int (1 : Int32))] [(.int (2 : Int32)), (.ref a), (.int (1 : Int32)), (.ref ed)])) rfl rfl (hb hby d6_109)
    replace E_a := E_a.wr W_73
    replace A_ed := A_ed.other W_73 (Ne.symm ne_a_ed)
    replace F_player_a := F_player_a.other W_73 (Or.inr (slot_ne (Or.inl (hw _ (List.mem_of_getElem? (i := 12) rfl))) (Or.inl (hw _ (List.mem_of_getElem? (i := 34) rfl))) (by decide) (t := (.array .int)) (t' := .int) (by decide) (by decide)))
    replace F_first_a := F_first_a.other W_73 (Or.inr (slot_ne (Or.inl (hw _ (List.mem_of_getElem? (i := 14) rfl))) (Or.inl (hw _ (List.mem_of_getElem? (i := 34) rfl))) (by decide) (t := (.array .int)) (t' := .int) (by decide) (by decide)))
    replace F_degree_a := F_degree_a.other W_73 (Or.inr (slot_ne (Or.inl (hw _ (List.mem_of_getElem? (i := 16) rfl))) (Or.inl (hw _ (List.mem_of_getElem? (i := 34) rfl))) (by decide) (t := (.array .int)) (t' := .int) (by decide) (by decide)))
    replace F_edges_a := F_edges_a.other W_73 (Or.inr (slot_ne (Or.inl (hw _ (List.mem_of_getElem? (i := 18) rfl))) (Or.inl (hw _ (List.mem_of_getElem? (i := 34) rfl))) (by decide) (t := (.array .int)) (t' := .int) (by decide) (by decide)))
    replace F_partner_a := F_partner_a.other W_73 (Or.inr (slot_ne (Or.inl (hw _ (List.mem_of_getElem? (i := 20) rfl))) (Or.inl (hw _ (List.mem_of_getElem? (i := 34) rfl))) (by decide) (t := (.array .int)) (t' := .int) (by decide) (by decide)))
    replace F_edgeLeft_a := F_edgeLeft_a.other W_73 (Or.inr (slot_ne (Or.inl (hw _ (List.mem_of_getElem? (i := 23) rfl))) (Or.inl (hw _ (List.mem_of_getElem? (i := 34) rfl))) (by decide) (t := (.array .boolean)) (t' := .int) (by decide) (by decide)))
    replace F_slotPlus1_a := F_slotPlus1_a.other W_73 (Or.inr (slot_ne (Or.inr (hw _ (List.mem_of_getElem? (i := 25) rfl))) (Or.inl (hw _ (List.mem_of_getElem? (i := 34) rfl))) (by decide) (t := (.array .int)) (t' := .int) (by decide) (by decide)))
    replace F_slots_a := F_slots_a.other W_73 (Or.inr (slot_ne (Or.inl (hw _ (List.mem_of_getElem? (i := 32) rfl))) (Or.inl (hw _ (List.mem_of_getElem? (i := 34) rfl))) (by decide) (t := .int) (t' := .int) (by decide) (by decide)))
    replace A_pl := A_pl.other W_73 (Ne.symm ne_a_pl)
    replace A_fi := A_fi.other W_73 (Ne.symm ne_a_fi)
    replace A_de := A_de.other W_73 (Ne.symm ne_a_de)
    replace A_pa := A_pa.other W_73 (Ne.symm ne_a_pa)
    replace A_el := A_el.other W_73 (Ne.symm ne_a_el)
    replace A_sp := A_sp.other W_73 (Ne.symm ne_a_sp)
    replace lt_a := Nat.lt_of_lt_of_le lt_a (Keep.of_wr W_73).1
    replace lt_pl := Nat.lt_of_lt_of_le lt_pl (Keep.of_wr W_73).1
    replace lt_fi := Nat.lt_of_lt_of_le lt_fi (Keep.of_wr W_73).1
    replace lt_de := Nat.lt_of_lt_of_le lt_de (Keep.of_wr W_73).1
    replace lt_ed := Nat.lt_of_lt_of_le lt_ed (Keep.of_wr W_73).1
    replace lt_pa := Nat.lt_of_lt_of_le lt_pa (Keep.of_wr W_73).1
    replace lt_el := Nat.lt_of_lt_of_le lt_el (Keep.of_wr W_73).1
    replace lt_sp := Nat.lt_of_lt_of_le lt_sp (Keep.of_wr W_73).1
    replace Zs := Nat.le_trans Zs (Keep.of_wr W_73).1
    replace Kp := Kp.wr W_73 (Or.inl (by simp))
    replace F_edgeCount_a := F_edgeCount_a.same W_73
    replace Nf := Fr.snoc X_73 Nf g_a
    refine Win.go st_73 ?_
    clear st_73 W_73 X_72 e_72
    show Win p.tables e below _ (T_73.setTop (mkF m 112 #[.val (.ref a), .val (.int p1), .val (.int p2), .val (.int (1 : Int32))] [(.int (1 : Int32)), (.ref ed)]))
    refine s_iloadN (pc' := 113) X_73.here hx (hb hby d6_112) rfl rfl ?_
    obtain ⟨cl_74, Ar_74, S_74, G_74⟩ := id A_ed
    have hb_74 : 0 ≤ ((1 : Int32)).toInt ∧ ((1 : Int32)).toInt < 16 := by decide
    obtain ⟨T_74, h_74, X_74, e_74, W_74, st_74⟩ := stI X_73 hx hZ e_73 Ar_74 (j := (1 : Int32)) (AF.inb S_74 hb_74) (g := (mkF m 113 #[.val (.ref a), .val (.int p1), .val (.int p2), .val (.int (1 : Int32))] [(.int p2), (.int (1 : Int32)), (.ref ed)])) rfl rfl (hb hby d6_113)
    have A_74 : AF Z h_74 ed .int 16 (updF f4 (1 : Int) p2) := AF.set Ar_74 S_74 G_74 W_74 hb_74
    replace E_a := E_a.wr W_74
    replace F_player_a := F_player_a.other W_74 (Or.inl ne_a_ed)
    replace F_first_a := F_first_a.other W_74 (Or.inl ne_a_ed)
    replace F_degree_a := F_degree_a.other W_74 (Or.inl ne_a_ed)
    replace F_edges_a := F_edges_a.other W_74 (Or.inl ne_a_ed)
    replace F_partner_a := F_partner_a.other W_74 (Or.inl ne_a_ed)
    replace F_edgeLeft_a := F_edgeLeft_a.other W_74 (Or.inl ne_a_ed)
    replace F_slotPlus1_a := F_slotPlus1_a.other W_74 (Or.inl ne_a_ed)
    replace F_slots_a := F_slots_a.other W_74 (Or.inl ne_a_ed)
    replace F_edgeCount_a := F_edgeCount_a.other W_74 (Or.inl ne_a_ed)
    replace A_pl := A_pl.other W_74 ne_pl_ed
    replace A_fi := A_fi.other W_74 ne_fi_ed
    replace A_de := A_de.other W_74 ne_de_ed
    replace A_pa := A_pa.other W_74 (Ne.symm ne_ed_pa)
    replace A_el := A_el.other W_74 (Ne.symm ne_ed_el)
    replace A_sp := A_sp.other W_74 (Ne.symm ne_ed_sp)
    replace lt_a := Nat.lt_of_lt_of_le lt_a (Keep.of_wr W_74).1
    replace lt_pl := Nat.lt_of_lt_of_le lt_pl (Keep.of_wr W_74).1
    replace lt_fi := Nat.lt_of_lt_of_le lt_fi (Keep.of_wr W_74).1
    replace lt_de := Nat.lt_of_lt_of_le lt_de (Keep.of_wr W_74).1
    replace lt_ed := Nat.lt_of_lt_of_le lt_ed (Keep.of_wr W_74).1
    replace lt_pa := Nat.lt_of_lt_of_le lt_pa (Keep.of_wr W_74).1
    replace lt_el := Nat.lt_of_lt_of_le lt_el (Keep.of_wr W_74).1
    replace lt_sp := Nat.lt_of_lt_of_le lt_sp (Keep.of_wr W_74).1
    replace Zs := Nat.le_trans Zs (Keep.of_wr W_74).1
    replace Kp := Kp.wr W_74 (Or.inl (by simp))
    replace A_ed := A_74
    replace Nf := Fr.snoc X_74 Nf g_ed
    refine Win.go st_74 ?_
    clear st_74 W_74 A_74 Ar_74 S_74 G_74 hb_74 X_73 e_73
    show Win p.tables e below _ (T_74.setTop (mkF m 114 #[.val (.ref a), .val (.int p1), .val (.int p2), .val (.int (1 : Int32))] []))
    refine s_aloadN (pc' := 115) X_74.here hx (hb hby d6_114) rfl rfl rfl ?_
    obtain ⟨T_75, X_75, e_75, st_75⟩ := getF X_74 hx hZ hown (host := "") (Or.inl (hw _ (List.mem_of_getElem? (i := 15) rfl))) Via.refl e_74 F_degree_a (g := (mkF m 115 #[.val (.ref a), .val (.int p1), .val (.int p2), .val (.int (1 : Int32))] [(.ref a)])) rfl rfl (hb hby d6_115)
    refine Win.go st_75 ?_
    clear st_75 X_74 e_74
    show Win p.tables e below _ (T_75.setTop (mkF m 118 #[.val (.ref a), .val (.int p1), .val (.int p2), .val (.int (1 : Int32))] [(.ref de)]))
    refine s_iloadN (pc' := 119) X_75.here hx (hb hby d6_118) rfl rfl ?_
    refine Win.go (fun _ k => XT.dup2 X_75.here hx rfl (hb hby d6_119) rfl rfl rfl k) ?_
    show Win p.tables e below _ (T_75.setTop (mkF m 120 #[.val (.ref a), .val (.int p1), .val (.int p2), .val (.int (1 : Int32))] [(.int (1 : Int32)), (.ref de), (.int (1 : Int32)), (.ref de)]))
    obtain ⟨cl_76, Ar_76, S_76, G_76⟩ := id A_de
    have hb_76 : 0 ≤ ((1 : Int32)).toInt ∧ ((1 : Int32)).toInt < 16 := by decide
    refine Win.go (fun _ k => X_75.iaload hx (j := (1 : Int32)) (v := (.int ((updF f3 (1 : Int) (0 : Int32)) (1 : Int)))) (by rw [e_75]; exact Ar_76.1) (State.isArrayOf_alike hZ.alike Ar_76.2.1) Ar_76.2.2 (AF.inb S_76 hb_76) (G_76 _ hb_76.1 hb_76.2) (g := (mkF m 120 #[.val (.ref a), .val (.int p1), .val (.int p2), .val (.int (1 : Int32))] [(.int (1 : Int32)), (.ref de), (.int (1 : Int32)), (.ref de)])) rfl rfl (hb hby d6_120) _ k) ?_
    show Win p.tables e below _ (T_75.setTop (mkF m 121 #[.val (.ref a), .val (.int p1), .val (.int p2), .val (.int (1 : Int32))] [(.int ((updF f3 (1 : Int) (0 : Int32)) (1 : Int))), (.int (1 : Int32)), (.ref de)]))
    clear Ar_76 S_76 G_76 hb_76
    refine s_iconst (pc' := 122) (z := (1 : Int32)) X_75.here hx (hb hby d6_121) rfl rfl ?_
    refine s_iadd (pc' := 123) X_75.here hx (hb hby d6_122) rfl ?_
    obtain ⟨cl_77, Ar_77, S_77, G_77⟩ := id A_de
    have hb_77 : 0 ≤ ((1 : Int32)).toInt ∧ ((1 : Int32)).toInt < 16 := by decide
    obtain ⟨T_77, h_77, X_77, e_77, W_77, st_77⟩ := stI X_75 hx hZ e_75 Ar_77 (j := (1 : Int32)) (AF.inb S_77 hb_77) (g := (mkF m 123 #[.val (.ref a), .val (.int p1), .val (.int p2), .val (.int (1 : Int32))] [(.int (((updF f3 (1 : Int) (0 : Int32)) (1 : Int)) + (1 : Int32))), (.int (1 : Int32)), (.ref de)])) rfl rfl (hb hby d6_123)
    have A_77 : AF Z h_77 de .int 16 (updF (updF f3 (1 : Int) (0 : Int32)) (1 : Int) (((updF f3 (1 : Int) (0 : Int32)) (1 : Int)) + (1 : Int32))) := AF.set Ar_77 S_77 G_77 W_77 hb_77
    replace E_a := E_a.wr W_77
    replace F_player_a := F_player_a.other W_77 (Or.inl ne_a_de)
    replace F_first_a := F_first_a.other W_77 (Or.inl ne_a_de)
    replace F_degree_a := F_degree_a.other W_77 (Or.inl ne_a_de)
    replace F_edges_a := F_edges_a.other W_77 (Or.inl ne_a_de)
    replace F_partner_a := F_partner_a.other W_77 (Or.inl ne_a_de)
    replace F_edgeLeft_a := F_edgeLeft_a.other W_77 (Or.inl ne_a_de)
    replace F_slotPlus1_a := F_slotPlus1_a.other W_77 (Or.inl ne_a_de)
    replace F_slots_a := F_slots_a.other W_77 (Or.inl ne_a_de)
    replace F_edgeCount_a := F_edgeCount_a.other W_77 (Or.inl ne_a_de)
    replace A_pl := A_pl.other W_77 ne_pl_de
    replace A_fi := A_fi.other W_77 ne_fi_de
    replace A_pa := A_pa.other W_77 (Ne.symm ne_de_pa)
    replace A_el := A_el.other W_77 (Ne.symm ne_de_el)
    replace A_sp := A_sp.other W_77 (Ne.symm ne_de_sp)
    replace A_ed := A_ed.other W_77 (Ne.symm ne_de_ed)
    replace lt_a := Nat.lt_of_lt_of_le lt_a (Keep.of_wr W_77).1
    replace lt_pl := Nat.lt_of_lt_of_le lt_pl (Keep.of_wr W_77).1
    replace lt_fi := Nat.lt_of_lt_of_le lt_fi (Keep.of_wr W_77).1
    replace lt_de := Nat.lt_of_lt_of_le lt_de (Keep.of_wr W_77).1
    replace lt_ed := Nat.lt_of_lt_of_le lt_ed (Keep.of_wr W_77).1
    replace lt_pa := Nat.lt_of_lt_of_le lt_pa (Keep.of_wr W_77).1
    replace lt_el := Nat.lt_of_lt_of_le lt_el (Keep.of_wr W_77).1
    replace lt_sp := Nat.lt_of_lt_of_le lt_sp (Keep.of_wr W_77).1
    replace Zs := Nat.le_trans Zs (Keep.of_wr W_77).1
    replace Kp := Kp.wr W_77 (Or.inl (by simp))
    replace A_de := A_77
    replace Nf := Fr.snoc X_77 Nf g_de
    refine Win.go st_77 ?_
    clear st_77 W_77 A_77 Ar_77 S_77 G_77 hb_77 X_75 e_75
    show Win p.tables e below _ (T_77.setTop (mkF m 124 #[.val (.ref a), .val (.int p1), .val (.int p2), .val (.int (1 : Int32))] []))
    refine winV X_77 hx hlk e_77 Bd.returns (hb hby d6_124) (by decide) (by decide) ?_
    exact ⟨Nf, Kp, F_player_a, F_first_a, F_degree_a, F_edges_a, F_partner_a, F_edgeLeft_a, F_slotPlus1_a, F_slots_a, F_edgeCount_a, A_pl, A_fi, A_de, A_ed, A_pa, A_el, A_sp, rfl⟩
  · skip
    exfalso
    omega
theorem d10_0 : decode prog_53_method_10_code 0 = .ok (.aload_n 0, 1) := by decide +kernel
theorem d10_1 : decode prog_53_method_10_code 1 = .ok (.getfield 22, 3) := by decide +kernel
theorem d10_4 : decode prog_53_method_10_code 4 = .ok (.iload_n 1, 1) := by decide +kernel
theorem d10_5 : decode prog_53_method_10_code 5 = .ok (.iload_n 2, 1) := by decide +kernel
theorem d10_6 : decode prog_53_method_10_code 6 = .ok (.iastore, 1) := by decide +kernel
theorem d10_7 : decode prog_53_method_10_code 7 = .ok (.return_, 1) := by decide +kernel
theorem ef_10 (m : MethodId) (a : Addr) (p2 : Int32) : entryFrame m #[(.ref a), (.int (0 : Int32)), (.int p2)] 3 = mkF m 0 #[.val (.ref a), .val (.int (0 : Int32)), .val (.int p2)] [] := by first | (simp [entryFrame, mkF, argsToLocals, Value.category]; done) | rfl
def Q10 (Z : State) (a : Addr) (p2 : Int32) (pa : Addr) (f5 : Int → Int32) (h0 : Heap) (n0 : Nat) (v : Option Value) (h : Heap) (L : List Loc) : Prop := Fr n0 L ∧ Keep h0 h [pa] ∧ AF Z h pa .int 16 (updF f5 (0 : Int) p2) ∧ v = none
set_option maxRecDepth 65536 in
set_option maxHeartbeats 40000000 in
theorem rm10 (l : Launch) (Z : State) (a0 : Array Value) (hw : ∀ d ∈ tables_1, d.before a0 Z = true) (ws : List Jvm.Cond) (a : Addr) (p2 : Int32) (pa : Addr) (f5 : Int → Int32) (h0 : Heap) (n0 : Nat) (Zs : n0 ≤ h0.size) (F_partner_a : Fld Z h0 a "com/example/nearstable/nearstable/maximal/Players" "partner" "[I" (.ref pa)) (A_pa : AF Z h0 pa .int 16 f5) (g_pa : n0 ≤ pa) (ne_a_pa : a ≠ pa) :
    MetFree l (⟨"com/example/nearstable/nearstable/maximal/Players", "match", "(II)V"⟩ : MethodName) (head1 (Jvm.Cond.code (⟨"com/example/nearstable/nearstable/maximal/Players", "match", "(II)V"⟩ : MethodName) prog_53_method_10_code 3 none :: ws) ({ frames := 0, cells := 0, slots := 0, locals := 0 } : Room)) (fun as' U => as' = #[(.ref a), (.int (0 : Int32)), (.int p2)] ∧ Z.Warmed39 U.vm ∧ U.heap = h0) (fun _ _ _ _ _ => True) (fun _ U o U' => ∃ v L, o = .returned v ∧ Q10 Z a p2 pa f5 h0 n0 v U'.heap L ∧ FrameEnd U o U' L ({ frames := 0, cells := 0, slots := 0, locals := 0 } : Room).cells ({ frames := 0, cells := 0, slots := 0, locals := 0 } : Room).slots) := by
  refine MetFree.of_bodySF (plainFor_of_name pn_1) hisR ?_
  intro p e s m args below meth c s₁ Bd hml0 hP hK
  obtain ⟨rfl, hZ, hh⟩ := hP
  have hx := Bd.exec
  have hby := Bd.bytes
  have hml : c.maxLocals = 3 := hml0
  have hown : s.vm.findClass "com/example/nearstable/nearstable/maximal/Players" = some m.cls := findClass_of_methodNamed Bd.named
  have hnm := (name_of_methodNamed Bd.named Bd.method).1
  have hlk : meth.locks = false := Bd.notSynchronized
  have X0 : Stand p l e ({ frames := 0, cells := 0, slots := 0, locals := 0 } : Room) s m #[(.ref a), (.int (0 : Int32)), (.int p2)] below meth c s₁ [] 0 0 := Stand.of_body Bd
  have e0 : s₁.heap = h0 := by rw [← hh, Bd.state]; rfl
  have Nf := Fr.nil n0
  refine (?_ : Win p.tables e below (PostQ s (Q10 Z a p2 pa f5 h0 n0) ({ frames := 0, cells := 0, slots := 0, locals := 0 } : Room).cells ({ frames := 0, cells := 0, slots := 0, locals := 0 } : Room).slots) (s₁.setTop (entryFrame m #[(.ref a), (.int (0 : Int32)), (.int p2)] 3)))
  rw [ef_10]
  have Kp : Keep h0 h0 [pa] := Keep.refl h0 _
  have lt_a : a < h0.size := F_partner_a.lt
  have lt_pa : pa < h0.size := A_pa.lt
  show Win p.tables e below _ (s₁.setTop (mkF m 0 #[.val (.ref a), .val (.int (0 : Int32)), .val (.int p2)] []))
  refine s_aloadN (pc' := 1) X0.here hx (hb hby d10_0) rfl rfl rfl ?_
  obtain ⟨T_78, X_78, e_78, st_78⟩ := getF X0 hx hZ hown (host := "") (Or.inl (hw _ (List.mem_of_getElem? (i := 19) rfl))) Via.refl e0 F_partner_a (g := (mkF m 1 #[.val (.ref a), .val (.int (0 : Int32)), .val (.int p2)] [(.ref a)])) rfl rfl (hb hby d10_1)
  refine Win.go st_78 ?_
  clear st_78 X0 e0
  show Win p.tables e below _ (T_78.setTop (mkF m 4 #[.val (.ref a), .val (.int (0 : Int32)), .val (.int p2)] [(.ref pa)]))
  refine s_iloadN (pc' := 5) X_78.here hx (hb hby d10_4) rfl rfl ?_
  refine s_iloadN (pc' := 6) X_78.here hx (hb hby d10_5) rfl rfl ?_
  obtain ⟨cl_79, Ar_79, S_79, G_79⟩ := id A_pa
  have hb_79 : 0 ≤ ((0 : Int32)).toInt ∧ ((0 : Int32)).toInt < 16 := by decide
  obtain ⟨T_79, h_79, X_79, e_79, W_79, st_79⟩ := stI X_78 hx hZ e_78 Ar_79 (j := (0 : Int32)) (AF.inb S_79 hb_79) (g := (mkF m 6 #[.val (.ref a), .val (.int (0 : Int32)), .val (.int p2)] [(.int p2), (.int (0 : Int32)), (.ref pa)])) rfl rfl (hb hby d10_6)
  have A_79 : AF Z h_79 pa .int 16 (updF f5 (0 : Int) p2) := AF.set Ar_79 S_79 G_79 W_79 hb_79
  replace F_partner_a := F_partner_a.other W_79 (Or.inl ne_a_pa)
  replace lt_a := Nat.lt_of_lt_of_le lt_a (Keep.of_wr W_79).1
  replace lt_pa := Nat.lt_of_lt_of_le lt_pa (Keep.of_wr W_79).1
  replace Zs := Nat.le_trans Zs (Keep.of_wr W_79).1
  replace Kp := Kp.wr W_79 (Or.inl (by simp))
  replace A_pa := A_79
  replace Nf := Fr.snoc X_79 Nf g_pa
  refine Win.go st_79 ?_
  clear st_79 W_79 A_79 Ar_79 S_79 G_79 hb_79 X_78 e_78
  show Win p.tables e below _ (T_79.setTop (mkF m 7 #[.val (.ref a), .val (.int (0 : Int32)), .val (.int p2)] []))
  refine winV X_79 hx hlk e_79 Bd.returns (hb hby d10_7) (by decide) (by decide) ?_
  exact ⟨Nf, Kp, A_pa, rfl⟩
theorem d3_0 : decode prog_53_method_13_code 0 = .ok (.iconst 0, 1) := by decide +kernel
theorem d3_1 : decode prog_53_method_13_code 1 = .ok (.istore_n 1, 1) := by decide +kernel
theorem d3_2 : decode prog_53_method_13_code 2 = .ok (.iload_n 1, 1) := by decide +kernel
theorem d3_3 : decode prog_53_method_13_code 3 = .ok (.aload_n 0, 1) := by decide +kernel
theorem d3_4 : decode prog_53_method_13_code 4 = .ok (.getfield 36, 3) := by decide +kernel
theorem d3_7 : decode prog_53_method_13_code 7 = .ok (.if_icmp .ge 21, 3) := by decide +kernel
theorem d3_28 : decode prog_53_method_13_code 28 = .ok (.aload_n 0, 1) := by decide +kernel
theorem d3_29 : decode prog_53_method_13_code 29 = .ok (.iconst 0, 1) := by decide +kernel
theorem d3_30 : decode prog_53_method_13_code 30 = .ok (.putfield 36, 3) := by decide +kernel
theorem d3_33 : decode prog_53_method_13_code 33 = .ok (.aload_n 0, 1) := by decide +kernel
theorem d3_34 : decode prog_53_method_13_code 34 = .ok (.iconst 0, 1) := by decide +kernel
theorem d3_35 : decode prog_53_method_13_code 35 = .ok (.putfield 40, 3) := by decide +kernel
theorem d3_38 : decode prog_53_method_13_code 38 = .ok (.return_, 1) := by decide +kernel
theorem ef_3_0 (m : MethodId) (a : Addr) : entryFrame m #[(.ref a)] 2 = mkF m 0 #[.val (.ref a), .unset] [] := by first | (simp [entryFrame, mkF, argsToLocals, Value.category]; done) | rfl
def Q3_0 (Z : State) (a : Addr) (pl : Addr) (fi : Addr) (de : Addr) (ed : Addr) (pa : Addr) (el : Addr) (sp : Addr) (f1 : Int → Int32) (f2 : Int → Int32) (f3 : Int → Int32) (f4 : Int → Int32) (f5 : Int → Int32) (f6 : Int → Int32) (g : Int → Int32) (h0 : Heap) (n0 : Nat) (v : Option Value) (h : Heap) (L : List Loc) : Prop := Fr n0 L ∧ Keep h0 h [a, sp] ∧ Fld Z h a "com/example/nearstable/nearstable/maximal/Players" "player" "[I" (.ref pl) ∧ Fld Z h a "com/example/nearstable/nearstable/maximal/Players" "first" "[I" (.ref fi) ∧ Fld Z h a "com/example/nearstable/nearstable/maximal/Players" "degree" "[I" (.ref de) ∧ Fld Z h a "com/example/nearstable/nearstable/maximal/Players" "edges" "[I" (.ref ed) ∧ Fld Z h a "com/example/nearstable/nearstable/maximal/Players" "partner" "[I" (.ref pa) ∧ Fld Z h a "com/example/nearstable/nearstable/maximal/Players" "edgeLeft" "[Z" (.ref el) ∧ Fld Z h a "com/example/nearstable/nearstable/maximal/Players" "slotPlus1" "[I" (.ref sp) ∧ Fld Z h a "com/example/nearstable/nearstable/maximal/Players" "slots" "I" (.int (0 : Int32)) ∧ Fld Z h a "com/example/nearstable/nearstable/maximal/Players" "edgeCount" "I" (.int (0 : Int32)) ∧ AF Z h sp .int 8 g ∧ v = none
set_option maxRecDepth 65536 in
set_option maxHeartbeats 40000000 in
theorem rm3_0 (l : Launch) (Z : State) (a0 : Array Value) (hw : ∀ d ∈ tables_1, d.before a0 Z = true) (ws : List Jvm.Cond) (a : Addr) (pl : Addr) (fi : Addr) (de : Addr) (ed : Addr) (pa : Addr) (el : Addr) (sp : Addr) (f1 : Int → Int32) (f2 : Int → Int32) (f3 : Int → Int32) (f4 : Int → Int32) (f5 : Int → Int32) (f6 : Int → Int32) (g : Int → Int32) (h0 : Heap) (n0 : Nat) (Zs : n0 ≤ h0.size) (E_a : Exa Z h0 a "com/example/nearstable/nearstable/maximal/Players") (F_player_a : Fld Z h0 a "com/example/nearstable/nearstable/maximal/Players" "player" "[I" (.ref pl)) (F_first_a : Fld Z h0 a "com/example/nearstable/nearstable/maximal/Players" "first" "[I" (.ref fi)) (F_degree_a : Fld Z h0 a "com/example/nearstable/nearstable/maximal/Players" "degree" "[I" (.ref de)) (F_edges_a : Fld Z h0 a "com/example/nearstable/nearstable/maximal/Players" "edges" "[I" (.ref ed)) (F_partner_a : Fld Z h0 a "com/example/nearstable/nearstable/maximal/Players" "partner" "[I" (.ref pa)) (F_edgeLeft_a : Fld Z h0 a "com/example/nearstable/nearstable/maximal/Players" "edgeLeft" "[Z" (.ref el)) (F_slotPlus1_a : Fld Z h0 a "com/example/nearstable/nearstable/maximal/Players" "slotPlus1" "[I" (.ref sp)) (F_slots_a : Fld Z h0 a "com/example/nearstable/nearstable/maximal/Players" "slots" "I" (.int (0 : Int32))) (F_edgeCount_a : Fld Z h0 a "com/example/nearstable/nearstable/maximal/Players" "edgeCount" "I" (.int (0 : Int32))) (A_pl : AF Z h0 pl .int 16 f1) (A_fi : AF Z h0 fi .int 16 f2) (A_de : AF Z h0 de .int 16 f3) (A_ed : AF Z h0 ed .int 16 f4) (A_pa : AF Z h0 pa .int 16 f5) (A_el : AF Z h0 el .boolean 16 f6) (A_sp : AF Z h0 sp .int 8 g) (g_a : n0 ≤ a) (g_pl : n0 ≤ pl) (g_fi : n0 ≤ fi) (g_de : n0 ≤ de) (g_ed : n0 ≤ ed) (g_pa : n0 ≤ pa) (g_el : n0 ≤ el) (g_sp : n0 ≤ sp) (ne_a_pl : a ≠ pl) (ne_a_fi : a ≠ fi) (ne_a_de : a ≠ de) (ne_a_ed : a ≠ ed) (ne_a_pa : a ≠ pa) (ne_a_el : a ≠ el) (ne_a_sp : a ≠ sp) (ne_pl_fi : pl ≠ fi) (ne_pl_de : pl ≠ de) (ne_pl_ed : pl ≠ ed) (ne_pl_pa : pl ≠ pa) (ne_pl_el : pl ≠ el) (ne_pl_sp : pl ≠ sp) (ne_fi_de : fi ≠ de) (ne_fi_ed : fi ≠ ed) (ne_fi_pa : fi ≠ pa) (ne_fi_el : fi ≠ el) (ne_fi_sp : fi ≠ sp) (ne_de_ed : de ≠ ed) (ne_de_pa : de ≠ pa) (ne_de_el : de ≠ el) (ne_de_sp : de ≠ sp) (ne_ed_pa : ed ≠ pa) (ne_ed_el : ed ≠ el) (ne_ed_sp : ed ≠ sp) (ne_pa_el : pa ≠ el) (ne_pa_sp : pa ≠ sp) (ne_el_sp : el ≠ sp) (hbd : True) :
    MetFree l (⟨"com/example/nearstable/nearstable/maximal/Players", "clear", "()V"⟩ : MethodName) (head1 (Jvm.Cond.code (⟨"com/example/nearstable/nearstable/maximal/Players", "clear", "()V"⟩ : MethodName) prog_53_method_13_code 2 none :: ws) ({ frames := 0, cells := 0, slots := 0, locals := 0 } : Room)) (fun as' U => as' = #[(.ref a)] ∧ Z.Warmed39 U.vm ∧ U.heap = h0) (fun _ _ _ _ _ => True) (fun _ U o U' => ∃ v L, o = .returned v ∧ Q3_0 Z a pl fi de ed pa el sp f1 f2 f3 f4 f5 f6 g h0 n0 v U'.heap L ∧ FrameEnd U o U' L ({ frames := 0, cells := 0, slots := 0, locals := 0 } : Room).cells ({ frames := 0, cells := 0, slots := 0, locals := 0 } : Room).slots) := by
  refine MetFree.of_bodySF (plainFor_of_name pn_1) hisR ?_
  intro p e s m args below meth c s₁ Bd hml0 hP hK
  obtain ⟨rfl, hZ, hh⟩ := hP
  have hx := Bd.exec
  have hby := Bd.bytes
  have hml : c.maxLocals = 2 := hml0
  have hown : s.vm.findClass "com/example/nearstable/nearstable/maximal/Players" = some m.cls := findClass_of_methodNamed Bd.named
  have hnm := (name_of_methodNamed Bd.named Bd.method).1
  have hlk : meth.locks = false := Bd.notSynchronized
  have X0 : Stand p l e ({ frames := 0, cells := 0, slots := 0, locals := 0 } : Room) s m #[(.ref a)] below meth c s₁ [] 0 0 := Stand.of_body Bd
  have e0 : s₁.heap = h0 := by rw [← hh, Bd.state]; rfl
  have Nf := Fr.nil n0
  refine (?_ : Win p.tables e below (PostQ s (Q3_0 Z a pl fi de ed pa el sp f1 f2 f3 f4 f5 f6 g h0 n0) ({ frames := 0, cells := 0, slots := 0, locals := 0 } : Room).cells ({ frames := 0, cells := 0, slots := 0, locals := 0 } : Room).slots) (s₁.setTop (entryFrame m #[(.ref a)] 2)))
  rw [ef_3_0]
  have Kp : Keep h0 h0 [a, sp] := Keep.refl h0 _
  have lt_a : a < h0.size := E_a.lt
  have lt_pl : pl < h0.size := A_pl.lt
  have lt_fi : fi < h0.size := A_fi.lt
  have lt_de : de < h0.size := A_de.lt
  have lt_ed : ed < h0.size := A_ed.lt
  have lt_pa : pa < h0.size := A_pa.lt
  have lt_el : el < h0.size := A_el.lt
  have lt_sp : sp < h0.size := A_sp.lt
  show Win p.tables e below _ (s₁.setTop (mkF m 0 #[.val (.ref a), .unset] []))
  refine s_iconst (pc' := 1) (z := (0 : Int32)) X0.here hx (hb hby d3_0) rfl rfl ?_
  refine s_istoreN (pc' := 2) (l' := #[.val (.ref a), .val (.int (0 : Int32))]) X0.here hx (hb hby d3_1) rfl rfl ?_
  refine s_iloadN (pc' := 3) X0.here hx (hb hby d3_2) rfl rfl ?_
  refine s_aloadN (pc' := 4) X0.here hx (hb hby d3_3) rfl rfl rfl ?_
  obtain ⟨T_80, X_80, e_80, st_80⟩ := getF X0 hx hZ hown (host := "") (Or.inl (hw _ (List.mem_of_getElem? (i := 31) rfl))) Via.refl e0 F_slots_a (g := (mkF m 4 #[.val (.ref a), .val (.int (0 : Int32))] [(.ref a), (.int (0 : Int32))])) rfl rfl (hb hby d3_4)
  refine Win.go st_80 ?_
  clear st_80 X0 e0
  show Win p.tables e below _ (T_80.setTop (mkF m 7 #[.val (.ref a), .val (.int (0 : Int32))] [(.int (0 : Int32)), (.int (0 : Int32))]))
  refine s_icmpYes (pc' := 28) X_80.here hx (hb hby d3_7) (fltI (x := (0 : Int32)) (y := (0 : Int32)) (by decide)).2.1 (by decide) (by decide) ?_
  refine s_aloadN (pc' := 29) X_80.here hx (hb hby d3_28) rfl rfl rfl ?_
  refine s_iconst (pc' := 30) (z := (0 : Int32)) X_80.here hx (hb hby d3_29) rfl rfl ?_
  obtain ⟨T_81, h_81, X_81, e_81, W_81, st_81⟩ := putF X_80 hx hZ hown (host := "") (Or.inl (hw _ (List.mem_of_getElem? (i := 31) rfl))) Via.refl e_80 F_slots_a E_a (Or.inl (hw _ (List.mem_of_getElem? (i := 32) rfl))) (hw _ (List.mem_of_getElem? (i := 2) rfl)) (ty := .int) (by decide) rfl rfl (g := (mkF m 30 #[.val (.ref a), .val (.int (0 : Int32))] [(.int (0 : Int32)), (.ref a)])) rfl rfl (hb hby d3_30)
  replace E_a := E_a.wr W_81
  replace F_player_a := F_player_a.other W_81 (Or.inr (slot_ne (Or.inl (hw _ (List.mem_of_getElem? (i := 12) rfl))) (Or.inl (hw _ (List.mem_of_getElem? (i := 32) rfl))) (by decide) (t := (.array .int)) (t' := .int) (by decide) (by decide)))
  replace F_first_a := F_first_a.other W_81 (Or.inr (slot_ne (Or.inl (hw _ (List.mem_of_getElem? (i := 14) rfl))) (Or.inl (hw _ (List.mem_of_getElem? (i := 32) rfl))) (by decide) (t := (.array .int)) (t' := .int) (by decide) (by decide)))
  replace F_degree_a := F_degree_a.other W_81 (Or.inr (slot_ne (Or.inl (hw _ (List.mem_of_getElem? (i := 16) rfl))) (Or.inl (hw _ (List.mem_of_getElem? (i := 32) rfl))) (by decide) (t := (.array .int)) (t' := .int) (by decide) (by decide)))
  replace F_edges_a := F_edges_a.other W_81 (Or.inr (slot_ne (Or.inl (hw _ (List.mem_of_getElem? (i := 18) rfl))) (Or.inl (hw _ (List.mem_of_getElem? (i := 32) rfl))) (by decide) (t := (.array .int)) (t' := .int) (by decide) (by decide)))
  replace F_partner_a := F_partner_a.other W_81 (Or.inr (slot_ne (Or.inl (hw _ (List.mem_of_getElem? (i := 20) rfl))) (Or.inl (hw _ (List.mem_of_getElem? (i := 32) rfl))) (by decide) (t := (.array .int)) (t' := .int) (by decide) (by decide)))
  replace F_edgeLeft_a := F_edgeLeft_a.other W_81 (Or.inr (slot_ne (Or.inl (hw _ (List.mem_of_getElem? (i := 23) rfl))) (Or.inl (hw _ (List.mem_of_getElem? (i := 32) rfl))) (by decide) (t := (.array .boolean)) (t' := .int) (by decide) (by decide)))
  replace F_slotPlus1_a := F_slotPlus1_a.other W_81 (Or.inr (slot_ne (Or.inr (hw _ (List.mem_of_getElem? (i := 25) rfl))) (Or.inl (hw _ (List.mem_of_getElem? (i := 32) rfl))) (by decide) (t := (.array .int)) (t' := .int) (by decide) (by decide)))
  replace F_edgeCount_a := F_edgeCount_a.other W_81 (Or.inr (slot_ne (Or.inl (hw _ (List.mem_of_getElem? (i := 34) rfl))) (Or.inl (hw _ (List.mem_of_getElem? (i := 32) rfl))) (by decide) (t := .int) (t' := .int) (by decide) (by decide)))
  replace A_pl := A_pl.other W_81 (Ne.symm ne_a_pl)
  replace A_fi := A_fi.other W_81 (Ne.symm ne_a_fi)
  replace A_de := A_de.other W_81 (Ne.symm ne_a_de)
  replace A_ed := A_ed.other W_81 (Ne.symm ne_a_ed)
  replace A_pa := A_pa.other W_81 (Ne.symm ne_a_pa)
  replace A_el := A_el.other W_81 (Ne.symm ne_a_el)
  replace A_sp := A_sp.other W_81 (Ne.symm ne_a_sp)
  replace lt_a := Nat.lt_of_lt_of_le lt_a (Keep.of_wr W_81).1
  replace lt_pl := Nat.lt_of_lt_of_le lt_pl (Keep.of_wr W_81).1
  replace lt_fi := Nat.lt_of_lt_of_le lt_fi (Keep.of_wr W_81).1
  replace lt_de := Nat.lt_of_lt_of_le lt_de (Keep.of_wr W_81).1
  replace lt_ed := Nat.lt_of_lt_of_le lt_ed (Keep.of_wr W_81).1
  replace lt_pa := Nat.lt_of_lt_of_le lt_pa (Keep.of_wr W_81).1
  replace lt_el := Nat.lt_of_lt_of_le lt_el (Keep.of_wr W_81).1
  replace lt_sp := Nat.lt_of_lt_of_le lt_sp (Keep.of_wr W_81).1
  replace Zs := Nat.le_trans Zs (Keep.of_wr W_81).1
  replace Kp := Kp.wr W_81 (Or.inl (by simp))
  replace F_slots_a := F_slots_a.same W_81
  replace Nf := Fr.snoc X_81 Nf g_a
  refine Win.go st_81 ?_
  clear st_81 W_81 X_80 e_80
  show Win p.tables e below _ (T_81.setTop (mkF m 33 #[.val (.ref a), .val (.int (0 : Int32))] []))
  refine s_aloadN (pc' := 34) X_81.here hx (hb hby d3_33) rfl rfl rfl ?_
  refine s_iconst (pc' := 35) (z := (0 : Int32)) X_81.here hx (hb hby d3_34) rfl rfl ?_
  obtain ⟨T_82, h_82, X_82, e_82, W_82, st_82⟩ := putF X_81 hx hZ hown (host := "") (Or.inl (hw _ (List.mem_of_getElem? (i := 33) rfl))) Via.refl e_81 F_edgeCount_a E_a (Or.inl (hw _ (List.mem_of_getElem? (i := 34) rfl))) (hw _ (List.mem_of_getElem? (i := 2) rfl)) (ty := .int) (by decide) rfl rfl (g := (mkF m 35 #[.val (.ref a), .val (.int (0 : Int32))] [(.int (0 : Int32)), (.ref a)])) rfl rfl (hb hby d3_35)
  replace E_a := E_a.wr W_82
  replace F_player_a := F_player_a.other W_82 (Or.inr (slot_ne (Or.inl (hw _ (List.mem_of_getElem? (i := 12) rfl))) (Or.inl (hw _ (List.mem_of_getElem? (i := 34) rfl))) (by decide) (t := (.array .int)) (t' := .int) (by decide) (by decide)))
  replace F_first_a := F_first_a.other W_82 (Or.inr (slot_ne (Or.inl (hw _ (List.mem_of_getElem? (i := 14) rfl))) (Or.inl (hw _ (List.mem_of_getElem? (i := 34) rfl))) (by decide) (t := (.array .int)) (t' := .int) (by decide) (by decide)))
  replace F_degree_a := F_degree_a.other W_82 (Or.inr (slot_ne (Or.inl (hw _ (List.mem_of_getElem? (i := 16) rfl))) (Or.inl (hw _ (List.mem_of_getElem? (i := 34) rfl))) (by decide) (t := (.array .int)) (t' := .int) (by decide) (by decide)))
  replace F_edges_a := F_edges_a.other W_82 (Or.inr (slot_ne (Or.inl (hw _ (List.mem_of_getElem? (i := 18) rfl))) (Or.inl (hw _ (List.mem_of_getElem? (i := 34) rfl))) (by decide) (t := (.array .int)) (t' := .int) (by decide) (by decide)))
  replace F_partner_a := F_partner_a.other W_82 (Or.inr (slot_ne (Or.inl (hw _ (List.mem_of_getElem? (i := 20) rfl))) (Or.inl (hw _ (List.mem_of_getElem? (i := 34) rfl))) (by decide) (t := (.array .int)) (t' := .int) (by decide) (by decide)))
  replace F_edgeLeft_a := F_edgeLeft_a.other W_82 (Or.inr (slot_ne (Or.inl (hw _ (List.mem_of_getElem? (i := 23) rfl))) (Or.inl (hw _ (List.mem_of_getElem? (i := 34) rfl))) (by decide) (t := (.array .boolean)) (t' := .int) (by decide) (by decide)))
  replace F_slotPlus1_a := F_slotPlus1_a.other W_82 (Or.inr (slot_ne (Or.inr (hw _ (List.mem_of_getElem? (i := 25) rfl))) (Or.inl (hw _ (List.mem_of_getElem? (i := 34) rfl))) (by decide) (t := (.array .int)) (t' := .int) (by decide) (by decide)))
  replace F_slots_a := F_slots_a.other W_82 (Or.inr (slot_ne (Or.inl (hw _ (List.mem_of_getElem? (i := 32) rfl))) (Or.inl (hw _ (List.mem_of_getElem? (i := 34) rfl))) (by decide) (t := .int) (t' := .int) (by decide) (by decide)))
  replace A_pl := A_pl.other W_82 (Ne.symm ne_a_pl)
  replace A_fi := A_fi.other W_82 (Ne.symm ne_a_fi)
  replace A_de := A_de.other W_82 (Ne.symm ne_a_de)
  replace A_ed := A_ed.other W_82 (Ne.symm ne_a_ed)
  replace A_pa := A_pa.other W_82 (Ne.symm ne_a_pa)
  replace A_el := A_el.other W_82 (Ne.symm ne_a_el)
  replace A_sp := A_sp.other W_82 (Ne.symm ne_a_sp)
  replace lt_a := Nat.lt_of_lt_of_le lt_a (Keep.of_wr W_82).1
  replace lt_pl := Nat.lt_of_lt_of_le lt_pl (Keep.of_wr W_82).1
  replace lt_fi := Nat.lt_of_lt_of_le lt_fi (Keep.of_wr W_82).1
  replace lt_de := Nat.lt_of_lt_of_le lt_de (Keep.of_wr W_82).1
  replace lt_ed := Nat.lt_of_lt_of_le lt_ed (Keep.of_wr W_82).1
  replace lt_pa := Nat.lt_of_lt_of_le lt_pa (Keep.of_wr W_82).1
  replace lt_el := Nat.lt_of_lt_of_le lt_el (Keep.of_wr W_82).1
  replace lt_sp := Nat.lt_of_lt_of_le lt_sp (Keep.of_wr W_82).1
  replace Zs := Nat.le_trans Zs (Keep.of_wr W_82).1
  replace Kp := Kp.wr W_82 (Or.inl (by simp))
  replace F_edgeCount_a := F_edgeCount_a.same W_82
  replace Nf := Fr.snoc X_82 Nf g_a
  refine Win.go st_82 ?_
  clear st_82 W_82 X_81 e_81
  show Win p.tables e below _ (T_82.setTop (mkF m 38 #[.val (.ref a), .val (.int (0 : Int32))] []))
  refine winV X_82 hx hlk e_82 Bd.returns (hb hby d3_38) (by decide) (by decide) ?_
  exact ⟨Nf, Kp, F_player_a, F_first_a, F_degree_a, F_edges_a, F_partner_a, F_edgeLeft_a, F_slotPlus1_a, F_slots_a, F_edgeCount_a, A_sp, rfl⟩
theorem d3_10 : decode prog_53_method_13_code 10 = .ok (.aload_n 0, 1) := by decide +kernel
theorem d3_11 : decode prog_53_method_13_code 11 = .ok (.getfield 29, 3) := by decide +kernel
theorem d3_14 : decode prog_53_method_13_code 14 = .ok (.aload_n 0, 1) := by decide +kernel
theorem d3_15 : decode prog_53_method_13_code 15 = .ok (.getfield 7, 3) := by decide +kernel
theorem d3_18 : decode prog_53_method_13_code 18 = .ok (.iload_n 1, 1) := by decide +kernel
theorem d3_19 : decode prog_53_method_13_code 19 = .ok (.iaload, 1) := by decide +kernel
theorem d3_20 : decode prog_53_method_13_code 20 = .ok (.iconst 0, 1) := by decide +kernel
theorem d3_21 : decode prog_53_method_13_code 21 = .ok (.iastore, 1) := by decide +kernel
theorem d3_22 : decode prog_53_method_13_code 22 = .ok (.iinc 1 1, 3) := by decide +kernel
theorem d3_25 : decode prog_53_method_13_code 25 = .ok (.goto (-23), 3) := by decide +kernel
theorem ef_3_1 (m : MethodId) (a : Addr) : entryFrame m #[(.ref a)] 2 = mkF m 0 #[.val (.ref a), .unset] [] := by first | (simp [entryFrame, mkF, argsToLocals, Value.category]; done) | rfl
def Q3_1 (Z : State) (a : Addr) (pl : Addr) (fi : Addr) (de : Addr) (ed : Addr) (pa : Addr) (el : Addr) (sp : Addr) (f1 : Int → Int32) (f2 : Int → Int32) (f3 : Int → Int32) (f4 : Int → Int32) (f5 : Int → Int32) (f6 : Int → Int32) (g : Int → Int32) (h0 : Heap) (n0 : Nat) (v : Option Value) (h : Heap) (L : List Loc) : Prop := Fr n0 L ∧ Keep h0 h [a, sp] ∧ Fld Z h a "com/example/nearstable/nearstable/maximal/Players" "player" "[I" (.ref pl) ∧ Fld Z h a "com/example/nearstable/nearstable/maximal/Players" "first" "[I" (.ref fi) ∧ Fld Z h a "com/example/nearstable/nearstable/maximal/Players" "degree" "[I" (.ref de) ∧ Fld Z h a "com/example/nearstable/nearstable/maximal/Players" "edges" "[I" (.ref ed) ∧ Fld Z h a "com/example/nearstable/nearstable/maximal/Players" "partner" "[I" (.ref pa) ∧ Fld Z h a "com/example/nearstable/nearstable/maximal/Players" "edgeLeft" "[Z" (.ref el) ∧ Fld Z h a "com/example/nearstable/nearstable/maximal/Players" "slotPlus1" "[I" (.ref sp) ∧ Fld Z h a "com/example/nearstable/nearstable/maximal/Players" "slots" "I" (.int (0 : Int32)) ∧ Fld Z h a "com/example/nearstable/nearstable/maximal/Players" "edgeCount" "I" (.int (0 : Int32)) ∧ AF Z h sp .int 8 (updF g ((f1 (0 : Int))).toInt (0 : Int32)) ∧ v = none
set_option maxRecDepth 65536 in
set_option maxHeartbeats 40000000 in
theorem rm3_1 (l : Launch) (Z : State) (a0 : Array Value) (hw : ∀ d ∈ tables_1, d.before a0 Z = true) (ws : List Jvm.Cond) (a : Addr) (pl : Addr) (fi : Addr) (de : Addr) (ed : Addr) (pa : Addr) (el : Addr) (sp : Addr) (f1 : Int → Int32) (f2 : Int → Int32) (f3 : Int → Int32) (f4 : Int → Int32) (f5 : Int → Int32) (f6 : Int → Int32) (g : Int → Int32) (h0 : Heap) (n0 : Nat) (Zs : n0 ≤ h0.size) (E_a : Exa Z h0 a "com/example/nearstable/nearstable/maximal/Players") (F_player_a : Fld Z h0 a "com/example/nearstable/nearstable/maximal/Players" "player" "[I" (.ref pl)) (F_first_a : Fld Z h0 a "com/example/nearstable/nearstable/maximal/Players" "first" "[I" (.ref fi)) (F_degree_a : Fld Z h0 a "com/example/nearstable/nearstable/maximal/Players" "degree" "[I" (.ref de)) (F_edges_a : Fld Z h0 a "com/example/nearstable/nearstable/maximal/Players" "edges" "[I" (.ref ed)) (F_partner_a : Fld Z h0 a "com/example/nearstable/nearstable/maximal/Players" "partner" "[I" (.ref pa)) (F_edgeLeft_a : Fld Z h0 a "com/example/nearstable/nearstable/maximal/Players" "edgeLeft" "[Z" (.ref el)) (F_slotPlus1_a : Fld Z h0 a "com/example/nearstable/nearstable/maximal/Players" "slotPlus1" "[I" (.ref sp)) (F_slots_a : Fld Z h0 a "com/example/nearstable/nearstable/maximal/Players" "slots" "I" (.int (1 : Int32))) (F_edgeCount_a : Fld Z h0 a "com/example/nearstable/nearstable/maximal/Players" "edgeCount" "I" (.int (1 : Int32))) (A_pl : AF Z h0 pl .int 16 f1) (A_fi : AF Z h0 fi .int 16 f2) (A_de : AF Z h0 de .int 16 f3) (A_ed : AF Z h0 ed .int 16 f4) (A_pa : AF Z h0 pa .int 16 f5) (A_el : AF Z h0 el .boolean 16 f6) (A_sp : AF Z h0 sp .int 8 g) (g_a : n0 ≤ a) (g_pl : n0 ≤ pl) (g_fi : n0 ≤ fi) (g_de : n0 ≤ de) (g_ed : n0 ≤ ed) (g_pa : n0 ≤ pa) (g_el : n0 ≤ el) (g_sp : n0 ≤ sp) (ne_a_pl : a ≠ pl) (ne_a_fi : a ≠ fi) (ne_a_de : a ≠ de) (ne_a_ed : a ≠ ed) (ne_a_pa : a ≠ pa) (ne_a_el : a ≠ el) (ne_a_sp : a ≠ sp) (ne_pl_fi : pl ≠ fi) (ne_pl_de : pl ≠ de) (ne_pl_ed : pl ≠ ed) (ne_pl_pa : pl ≠ pa) (ne_pl_el : pl ≠ el) (ne_pl_sp : pl ≠ sp) (ne_fi_de : fi ≠ de) (ne_fi_ed : fi ≠ ed) (ne_fi_pa : fi ≠ pa) (ne_fi_el : fi ≠ el) (ne_fi_sp : fi ≠ sp) (ne_de_ed : de ≠ ed) (ne_de_pa : de ≠ pa) (ne_de_el : de ≠ el) (ne_de_sp : de ≠ sp) (ne_ed_pa : ed ≠ pa) (ne_ed_el : ed ≠ el) (ne_ed_sp : ed ≠ sp) (ne_pa_el : pa ≠ el) (ne_pa_sp : pa ≠ sp) (ne_el_sp : el ≠ sp) (hbd : 0 ≤ (f1 (0 : Int)).toInt ∧ (f1 (0 : Int)).toInt < 8) :
    MetFree l (⟨"com/example/nearstable/nearstable/maximal/Players", "clear", "()V"⟩ : MethodName) (head1 (Jvm.Cond.code (⟨"com/example/nearstable/nearstable/maximal/Players", "clear", "()V"⟩ : MethodName) prog_53_method_13_code 2 none :: ws) ({ frames := 0, cells := 0, slots := 0, locals := 0 } : Room)) (fun as' U => as' = #[(.ref a)] ∧ Z.Warmed39 U.vm ∧ U.heap = h0) (fun _ _ _ _ _ => True) (fun _ U o U' => ∃ v L, o = .returned v ∧ Q3_1 Z a pl fi de ed pa el sp f1 f2 f3 f4 f5 f6 g h0 n0 v U'.heap L ∧ FrameEnd U o U' L ({ frames := 0, cells := 0, slots := 0, locals := 0 } : Room).cells ({ frames := 0, cells := 0, slots := 0, locals := 0 } : Room).slots) := by
  refine MetFree.of_bodySF (plainFor_of_name pn_1) hisR ?_
  intro p e s m args below meth c s₁ Bd hml0 hP hK
  obtain ⟨rfl, hZ, hh⟩ := hP
  have hx := Bd.exec
  have hby := Bd.bytes
  have hml : c.maxLocals = 2 := hml0
  have hown : s.vm.findClass "com/example/nearstable/nearstable/maximal/Players" = some m.cls := findClass_of_methodNamed Bd.named
  have hnm := (name_of_methodNamed Bd.named Bd.method).1
  have hlk : meth.locks = false := Bd.notSynchronized
  have X0 : Stand p l e ({ frames := 0, cells := 0, slots := 0, locals := 0 } : Room) s m #[(.ref a)] below meth c s₁ [] 0 0 := Stand.of_body Bd
  have e0 : s₁.heap = h0 := by rw [← hh, Bd.state]; rfl
  have Nf := Fr.nil n0
  refine (?_ : Win p.tables e below (PostQ s (Q3_1 Z a pl fi de ed pa el sp f1 f2 f3 f4 f5 f6 g h0 n0) ({ frames := 0, cells := 0, slots := 0, locals := 0 } : Room).cells ({ frames := 0, cells := 0, slots := 0, locals := 0 } : Room).slots) (s₁.setTop (entryFrame m #[(.ref a)] 2)))
  rw [ef_3_1]
  have Kp : Keep h0 h0 [a, sp] := Keep.refl h0 _
  have lt_a : a < h0.size := E_a.lt
  have lt_pl : pl < h0.size := A_pl.lt
  have lt_fi : fi < h0.size := A_fi.lt
  have lt_de : de < h0.size := A_de.lt
  have lt_ed : ed < h0.size := A_ed.lt
  have lt_pa : pa < h0.size := A_pa.lt
  have lt_el : el < h0.size := A_el.lt
  have lt_sp : sp < h0.size := A_sp.lt
  show Win p.tables e below _ (s₁.setTop (mkF m 0 #[.val (.ref a), .unset] []))
  refine s_iconst (pc' := 1) (z := (0 : Int32)) X0.here hx (hb hby d3_0) rfl rfl ?_
  refine s_istoreN (pc' := 2) (l' := #[.val (.ref a), .val (.int (0 : Int32))]) X0.here hx (hb hby d3_1) rfl rfl ?_
  refine s_iloadN (pc' := 3) X0.here hx (hb hby d3_2) rfl rfl ?_
  refine s_aloadN (pc' := 4) X0.here hx (hb hby d3_3) rfl rfl rfl ?_
  obtain ⟨T_83, X_83, e_83, st_83⟩ := getF X0 hx hZ hown (host := "") (Or.inl (hw _ (List.mem_of_getElem? (i := 31) rfl))) Via.refl e0 F_slots_a (g := (mkF m 4 #[.val (.ref a), .val (.int (0 : Int32))] [(.ref a), (.int (0 : Int32))])) rfl rfl (hb hby d3_4)
  refine Win.go st_83 ?_
  clear st_83 X0 e0
  show Win p.tables e below _ (T_83.setTop (mkF m 7 #[.val (.ref a), .val (.int (0 : Int32))] [(.int (1 : Int32)), (.int (0 : Int32))]))
  refine s_icmpNo (pc' := 10) X_83.here hx (hb hby d3_7) rfl (tltI (x := (0 : Int32)) (y := (1 : Int32)) (by decide)).2.1 ?_
  refine s_aloadN (pc' := 11) X_83.here hx (hb hby d3_10) rfl rfl rfl ?_
  obtain ⟨T_84, X_84, e_84, st_84⟩ := getF X_83 hx hZ hown (host := "") (Or.inl (hw _ (List.mem_of_getElem? (i := 24) rfl))) Via.refl e_83 F_slotPlus1_a (g := (mkF m 11 #[.val (.ref a), .val (.int (0 : Int32))] [(.ref a)])) rfl rfl (hb hby d3_11)
  refine Win.go st_84 ?_
  clear st_84 X_83 e_83
  show Win p.tables e below _ (T_84.setTop (mkF m 14 #[.val (.ref a), .val (.int (0 : Int32))] [(.ref sp)]))
  refine s_aloadN (pc' := 15) X_84.here hx (hb hby d3_14) rfl rfl rfl ?_
  obtain ⟨T_85, X_85, e_85, st_85⟩ := getF X_84 hx hZ hown (host := "") (Or.inl (hw _ (List.mem_of_getElem? (i := 11) rfl))) Via.refl e_84 F_player_a (g := (mkF m 15 #[.val (.ref a), .val (.int (0 : Int32))] [(.ref a), (.ref sp)])) rfl rfl (hb hby d3_15)
  refine Win.go st_85 ?_
  clear st_85 X_84 e_84
  show Win p.tables e below _ (T_85.setTop (mkF m 18 #[.val (.ref a), .val (.int (0 : Int32))] [(.ref pl), (.ref sp)]))
  refine s_iloadN (pc' := 19) X_85.here hx (hb hby d3_18) rfl rfl ?_
  obtain ⟨cl_86, Ar_86, S_86, G_86⟩ := id A_pl
  have hb_86 : 0 ≤ ((0 : Int32)).toInt ∧ ((0 : Int32)).toInt < 16 := by decide
  refine Win.go (fun _ k => X_85.iaload hx (j := (0 : Int32)) (v := (.int (f1 (0 : Int)))) (by rw [e_85]; exact Ar_86.1) (State.isArrayOf_alike hZ.alike Ar_86.2.1) Ar_86.2.2 (AF.inb S_86 hb_86) (G_86 _ hb_86.1 hb_86.2) (g := (mkF m 19 #[.val (.ref a), .val (.int (0 : Int32))] [(.int (0 : Int32)), (.ref pl), (.ref sp)])) rfl rfl (hb hby d3_19) _ k) ?_
  show Win p.tables e below _ (T_85.setTop (mkF m 20 #[.val (.ref a), .val (.int (0 : Int32))] [(.int (f1 (0 : Int))), (.ref sp)]))
  clear Ar_86 S_86 G_86 hb_86
  refine s_iconst (pc' := 21) (z := (0 : Int32)) X_85.here hx (hb hby d3_20) rfl rfl ?_
  obtain ⟨cl_87, Ar_87, S_87, G_87⟩ := id A_sp
  have hb_87 : 0 ≤ ((f1 (0 : Int))).toInt ∧ ((f1 (0 : Int))).toInt < 8 := by omega
  obtain ⟨T_87, h_87, X_87, e_87, W_87, st_87⟩ := stI X_85 hx hZ e_85 Ar_87 (j := (f1 (0 : Int))) (AF.inb S_87 hb_87) (g := (mkF m 21 #[.val (.ref a), .val (.int (0 : Int32))] [(.int (0 : Int32)), (.int (f1 (0 : Int))), (.ref sp)])) rfl rfl (hb hby d3_21)
  have A_87 : AF Z h_87 sp .int 8 (updF g ((f1 (0 : Int))).toInt (0 : Int32)) := AF.set Ar_87 S_87 G_87 W_87 hb_87
  replace E_a := E_a.wr W_87
  replace F_player_a := F_player_a.other W_87 (Or.inl ne_a_sp)
  replace F_first_a := F_first_a.other W_87 (Or.inl ne_a_sp)
  replace F_degree_a := F_degree_a.other W_87 (Or.inl ne_a_sp)
  replace F_edges_a := F_edges_a.other W_87 (Or.inl ne_a_sp)
  replace F_partner_a := F_partner_a.other W_87 (Or.inl ne_a_sp)
  replace F_edgeLeft_a := F_edgeLeft_a.other W_87 (Or.inl ne_a_sp)
  replace F_slotPlus1_a := F_slotPlus1_a.other W_87 (Or.inl ne_a_sp)
  replace F_slots_a := F_slots_a.other W_87 (Or.inl ne_a_sp)
  replace F_edgeCount_a := F_edgeCount_a.other W_87 (Or.inl ne_a_sp)
  replace A_pl := A_pl.other W_87 ne_pl_sp
  replace A_fi := A_fi.other W_87 ne_fi_sp
  replace A_de := A_de.other W_87 ne_de_sp
  replace A_ed := A_ed.other W_87 ne_ed_sp
  replace A_pa := A_pa.other W_87 ne_pa_sp
  replace A_el := A_el.other W_87 ne_el_sp
  replace lt_a := Nat.lt_of_lt_of_le lt_a (Keep.of_wr W_87).1
  replace lt_pl := Nat.lt_of_lt_of_le lt_pl (Keep.of_wr W_87).1
  replace lt_fi := Nat.lt_of_lt_of_le lt_fi (Keep.of_wr W_87).1
  replace lt_de := Nat.lt_of_lt_of_le lt_de (Keep.of_wr W_87).1
  replace lt_ed := Nat.lt_of_lt_of_le lt_ed (Keep.of_wr W_87).1
  replace lt_pa := Nat.lt_of_lt_of_le lt_pa (Keep.of_wr W_87).1
  replace lt_el := Nat.lt_of_lt_of_le lt_el (Keep.of_wr W_87).1
  replace lt_sp := Nat.lt_of_lt_of_le lt_sp (Keep.of_wr W_87).1
  replace Zs := Nat.le_trans Zs (Keep.of_wr W_87).1
  replace Kp := Kp.wr W_87 (Or.inl (by simp))
  replace A_sp := A_87
  replace Nf := Fr.snoc X_87 Nf g_sp
  refine Win.go st_87 ?_
  clear st_87 W_87 A_87 Ar_87 S_87 G_87 hb_87 X_85 e_85
  show Win p.tables e below _ (T_87.setTop (mkF m 22 #[.val (.ref a), .val (.int (0 : Int32))] []))
  refine Win.go (fun _ k => XS.iinc X_87.here hx rfl (hb hby d3_22) rfl (l' := #[.val (.ref a), .val (.int (1 : Int32))]) rfl k) ?_
  show Win p.tables e below _ (T_87.setTop (mkF m 25 #[.val (.ref a), .val (.int (1 : Int32))] []))
  refine s_goto (pc' := 2) X_87.here hx (hb hby d3_25) (by decide) (by decide) ?_
  refine s_iloadN (pc' := 3) X_87.here hx (hb hby d3_2) rfl rfl ?_
  refine s_aloadN (pc' := 4) X_87.here hx (hb hby d3_3) rfl rfl rfl ?_
  obtain ⟨T_88, X_88, e_88, st_88⟩ := getF X_87 hx hZ hown (host := "") (Or.inl (hw _ (List.mem_of_getElem? (i := 31) rfl))) Via.refl e_87 F_slots_a (g := (mkF m 4 #[.val (.ref a), .val (.int (1 : Int32))] [(.ref a), (.int (1 : Int32))])) rfl rfl (hb hby d3_4)
  refine Win.go st_88 ?_
  clear st_88 X_87 e_87
  show Win p.tables e below _ (T_88.setTop (mkF m 7 #[.val (.ref a), .val (.int (1 : Int32))] [(.int (1 : Int32)), (.int (1 : Int32))]))
  refine s_icmpYes (pc' := 28) X_88.here hx (hb hby d3_7) (fltI (x := (1 : Int32)) (y := (1 : Int32)) (by decide)).2.1 (by decide) (by decide) ?_
  refine s_aloadN (pc' := 29) X_88.here hx (hb hby d3_28) rfl rfl rfl ?_
  refine s_iconst (pc' := 30) (z := (0 : Int32)) X_88.here hx (hb hby d3_29) rfl rfl ?_
  obtain ⟨T_89, h_89, X_89, e_89, W_89, st_89⟩ := putF X_88 hx hZ hown (host := "") (Or.inl (hw _ (List.mem_of_getElem? (i := 31) rfl))) Via.refl e_88 F_slots_a E_a (Or.inl (hw _ (List.mem_of_getElem? (i := 32) rfl))) (hw _ (List.mem_of_getElem? (i := 2) rfl)) (ty := .int) (by decide) rfl rfl (g := (mkF m 30 #[.val (.ref a), .val (.int (1 : Int32))] [(.int (0 : Int32)), (.ref a)])) rfl rfl (hb hby d3_30)
  replace E_a := E_a.wr W_89
  replace F_player_a := F_player_a.other W_89 (Or.inr (slot_ne (Or.inl (hw _ (List.mem_of_getElem? (i := 12) rfl))) (Or.inl (hw _ (List.mem_of_getElem? (i := 32) rfl))) (by decide) (t := (.array .int)) (t' := .int) (by decide) (by decide)))
  replace F_first_a := F_first_a.other W_89 (Or.inr (slot_ne (Or.inl (hw _ (List.mem_of_getElem? (i := 14) rfl))) (Or.inl (hw _ (List.mem_of_getElem? (i := 32) rfl))) (by decide) (t := (.array .int)) (t' := .int) (by decide) (by decide)))
  replace F_degree_a := F_degree_a.other W_89 (Or.inr (slot_ne (Or.inl (hw _ (List.mem_of_getElem? (i := 16) rfl))) (Or.inl (hw _ (List.mem_of_getElem? (i := 32) rfl))) (by decide) (t := (.array .int)) (t' := .int) (by decide) (by decide)))
  replace F_edges_a := F_edges_a.other W_89 (Or.inr (slot_ne (Or.inl (hw _ (List.mem_of_getElem? (i := 18) rfl))) (Or.inl (hw _ (List.mem_of_getElem? (i := 32) rfl))) (by decide) (t := (.array .int)) (t' := .int) (by decide) (by decide)))
  replace F_partner_a := F_partner_a.other W_89 (Or.inr (slot_ne (Or.inl (hw _ (List.mem_of_getElem? (i := 20) rfl))) (Or.inl (hw _ (List.mem_of_getElem? (i := 32) rfl))) (by decide) (t := (.array .int)) (t' := .int) (by decide) (by decide)))
  replace F_edgeLeft_a := F_edgeLeft_a.other W_89 (Or.inr (slot_ne (Or.inl (hw _ (List.mem_of_getElem? (i := 23) rfl))) (Or.inl (hw _ (List.mem_of_getElem? (i := 32) rfl))) (by decide) (t := (.array .boolean)) (t' := .int) (by decide) (by decide)))
  replace F_slotPlus1_a := F_slotPlus1_a.other W_89 (Or.inr (slot_ne (Or.inr (hw _ (List.mem_of_getElem? (i := 25) rfl))) (Or.inl (hw _ (List.mem_of_getElem? (i := 32) rfl))) (by decide) (t := (.array .int)) (t' := .int) (by decide) (by decide)))
  replace F_edgeCount_a := F_edgeCount_a.other W_89 (Or.inr (slot_ne (Or.inl (hw _ (List.mem_of_getElem? (i := 34) rfl))) (Or.inl (hw _ (List.mem_of_getElem? (i := 32) rfl))) (by decide) (t := .int) (t' := .int) (by decide) (by decide)))
  replace A_pl := A_pl.other W_89 (Ne.symm ne_a_pl)
  replace A_fi := A_fi.other W_89 (Ne.symm ne_a_fi)
  replace A_de := A_de.other W_89 (Ne.symm ne_a_de)
  replace A_ed := A_ed.other W_89 (Ne.symm ne_a_ed)
  replace A_pa := A_pa.other W_89 (Ne.symm ne_a_pa)
  replace A_el := A_el.other W_89 (Ne.symm ne_a_el)
  replace A_sp := A_sp.other W_89 (Ne.symm ne_a_sp)
  replace lt_a := Nat.lt_of_lt_of_le lt_a (Keep.of_wr W_89).1
  replace lt_pl := Nat.lt_of_lt_of_le lt_pl (Keep.of_wr W_89).1
  replace lt_fi := Nat.lt_of_lt_of_le lt_fi (Keep.of_wr W_89).1
  replace lt_de := Nat.lt_of_lt_of_le lt_de (Keep.of_wr W_89).1
  replace lt_ed := Nat.lt_of_lt_of_le lt_ed (Keep.of_wr W_89).1
  replace lt_pa := Nat.lt_of_lt_of_le lt_pa (Keep.of_wr W_89).1
  replace lt_el := Nat.lt_of_lt_of_le lt_el (Keep.of_wr W_89).1
  replace lt_sp := Nat.lt_of_lt_of_le lt_sp (Keep.of_wr W_89).1
  replace Zs := Nat.le_trans Zs (Keep.of_wr W_89).1
  replace Kp := Kp.wr W_89 (Or.inl (by simp))
  replace F_slots_a := F_slots_a.same W_89
  replace Nf := Fr.snoc X_89 Nf g_a
  refine Win.go st_89 ?_
  clear st_89 W_89 X_88 e_88
  show Win p.tables e below _ (T_89.setTop (mkF m 33 #[.val (.ref a), .val (.int (1 : Int32))] []))
  refine s_aloadN (pc' := 34) X_89.here hx (hb hby d3_33) rfl rfl rfl ?_
  refine s_iconst (pc' := 35) (z := (0 : Int32)) X_89.here hx (hb hby d3_34) rfl rfl ?_
  obtain ⟨T_90, h_90, X_90, e_90, W_90, st_90⟩ := putF X_89 hx hZ hown (host := "") (Or.inl (hw _ (List.mem_of_getElem? (i := 33) rfl))) Via.refl e_89 F_edgeCount_a E_a (Or.inl (hw _ (List.mem_of_getElem? (i := 34) rfl))) (hw _ (List.mem_of_getElem? (i := 2) rfl)) (ty := .int) (by decide) rfl rfl (g := (mkF m 35 #[.val (.ref a), .val (.int (1 : Int32))] [(.int (0 : Int32)), (.ref a)])) rfl rfl (hb hby d3_35)
  replace E_a := E_a.wr W_90
  replace F_player_a := F_player_a.other W_90 (Or.inr (slot_ne (Or.inl (hw _ (List.mem_of_getElem? (i := 12) rfl))) (Or.inl (hw _ (List.mem_of_getElem? (i := 34) rfl))) (by decide) (t := (.array .int)) (t' := .int) (by decide) (by decide)))
  replace F_first_a := F_first_a.other W_90 (Or.inr (slot_ne (Or.inl (hw _ (List.mem_of_getElem? (i := 14) rfl))) (Or.inl (hw _ (List.mem_of_getElem? (i := 34) rfl))) (by decide) (t := (.array .int)) (t' := .int) (by decide) (by decide)))
  replace F_degree_a := F_degree_a.other W_90 (Or.inr (slot_ne (Or.inl (hw _ (List.mem_of_getElem? (i := 16) rfl))) (Or.inl (hw _ (List.mem_of_getElem? (i := 34) rfl))) (by decide) (t := (.array .int)) (t' := .int) (by decide) (by decide)))
  replace F_edges_a := F_edges_a.other W_90 (Or.inr (slot_ne (Or.inl (hw _ (List.mem_of_getElem? (i := 18) rfl))) (Or.inl (hw _ (List.mem_of_getElem? (i := 34) rfl))) (by decide) (t := (.array .int)) (t' := .int) (by decide) (by decide)))
  replace F_partner_a := F_partner_a.other W_90 (Or.inr (slot_ne (Or.inl (hw _ (List.mem_of_getElem? (i := 20) rfl))) (Or.inl (hw _ (List.mem_of_getElem? (i := 34) rfl))) (by decide) (t := (.array .int)) (t' := .int) (by decide) (by decide)))
  replace F_edgeLeft_a := F_edgeLeft_a.other W_90 (Or.inr (slot_ne (Or.inl (hw _ (List.mem_of_getElem? (i := 23) rfl))) (Or.inl (hw _ (List.mem_of_getElem? (i := 34) rfl))) (by decide) (t := (.array .boolean)) (t' := .int) (by decide) (by decide)))
  replace F_slotPlus1_a := F_slotPlus1_a.other W_90 (Or.inr (slot_ne (Or.inr (hw _ (List.mem_of_getElem? (i := 25) rfl))) (Or.inl (hw _ (List.mem_of_getElem? (i := 34) rfl))) (by decide) (t := (.array .int)) (t' := .int) (by decide) (by decide)))
  replace F_slots_a := F_slots_a.other W_90 (Or.inr (slot_ne (Or.inl (hw _ (List.mem_of_getElem? (i := 32) rfl))) (Or.inl (hw _ (List.mem_of_getElem? (i := 34) rfl))) (by decide) (t := .int) (t' := .int) (by decide) (by decide)))
  replace A_pl := A_pl.other W_90 (Ne.symm ne_a_pl)
  replace A_fi := A_fi.other W_90 (Ne.symm ne_a_fi)
  replace A_de := A_de.other W_90 (Ne.symm ne_a_de)
  replace A_ed := A_ed.other W_90 (Ne.symm ne_a_ed)
  replace A_pa := A_pa.other W_90 (Ne.symm ne_a_pa)
  replace A_el := A_el.other W_90 (Ne.symm ne_a_el)
  replace A_sp := A_sp.other W_90 (Ne.symm ne_a_sp)
  replace lt_a := Nat.lt_of_lt_of_le lt_a (Keep.of_wr W_90).1
  replace lt_pl := Nat.lt_of_lt_of_le lt_pl (Keep.of_wr W_90).1
  replace lt_fi := Nat.lt_of_lt_of_le lt_fi (Keep.of_wr W_90).1
  replace lt_de := Nat.lt_of_lt_of_le lt_de (Keep.of_wr W_90).1
  replace lt_ed := Nat.lt_of_lt_of_le lt_ed (Keep.of_wr W_90).1
  replace lt_pa := Nat.lt_of_lt_of_le lt_pa (Keep.of_wr W_90).1
  replace lt_el := Nat.lt_of_lt_of_le lt_el (Keep.of_wr W_90).1
  replace lt_sp := Nat.lt_of_lt_of_le lt_sp (Keep.of_wr W_90).1
  replace Zs := Nat.le_trans Zs (Keep.of_wr W_90).1
  replace Kp := Kp.wr W_90 (Or.inl (by simp))
  replace F_edgeCount_a := F_edgeCount_a.same W_90
  replace Nf := Fr.snoc X_90 Nf g_a
  refine Win.go st_90 ?_
  clear st_90 W_90 X_89 e_89
  show Win p.tables e below _ (T_90.setTop (mkF m 38 #[.val (.ref a), .val (.int (1 : Int32))] []))
  refine winV X_90 hx hlk e_90 Bd.returns (hb hby d3_38) (by decide) (by decide) ?_
  exact ⟨Nf, Kp, F_player_a, F_first_a, F_degree_a, F_edges_a, F_partner_a, F_edgeLeft_a, F_slotPlus1_a, F_slots_a, F_edgeCount_a, A_sp, rfl⟩
theorem ef_3_2 (m : MethodId) (a : Addr) : entryFrame m #[(.ref a)] 2 = mkF m 0 #[.val (.ref a), .unset] [] := by first | (simp [entryFrame, mkF, argsToLocals, Value.category]; done) | rfl
def Q3_2 (Z : State) (a : Addr) (pl : Addr) (fi : Addr) (de : Addr) (ed : Addr) (pa : Addr) (el : Addr) (sp : Addr) (f1 : Int → Int32) (f2 : Int → Int32) (f3 : Int → Int32) (f4 : Int → Int32) (f5 : Int → Int32) (f6 : Int → Int32) (g : Int → Int32) (h0 : Heap) (n0 : Nat) (v : Option Value) (h : Heap) (L : List Loc) : Prop := Fr n0 L ∧ Keep h0 h [a, sp] ∧ Fld Z h a "com/example/nearstable/nearstable/maximal/Players" "player" "[I" (.ref pl) ∧ Fld Z h a "com/example/nearstable/nearstable/maximal/Players" "first" "[I" (.ref fi) ∧ Fld Z h a "com/example/nearstable/nearstable/maximal/Players" "degree" "[I" (.ref de) ∧ Fld Z h a "com/example/nearstable/nearstable/maximal/Players" "edges" "[I" (.ref ed) ∧ Fld Z h a "com/example/nearstable/nearstable/maximal/Players" "partner" "[I" (.ref pa) ∧ Fld Z h a "com/example/nearstable/nearstable/maximal/Players" "edgeLeft" "[Z" (.ref el) ∧ Fld Z h a "com/example/nearstable/nearstable/maximal/Players" "slotPlus1" "[I" (.ref sp) ∧ Fld Z h a "com/example/nearstable/nearstable/maximal/Players" "slots" "I" (.int (0 : Int32)) ∧ Fld Z h a "com/example/nearstable/nearstable/maximal/Players" "edgeCount" "I" (.int (0 : Int32)) ∧ AF Z h sp .int 8 (updF (updF g ((f1 (0 : Int))).toInt (0 : Int32)) ((f1 (1 : Int))).toInt (0 : Int32)) ∧ v = none
set_option maxRecDepth 65536 in
set_option maxHeartbeats 40000000 in
theorem rm3_2 (l : Launch) (Z : State) (a0 : Array Value) (hw : ∀ d ∈ tables_1, d.before a0 Z = true) (ws : List Jvm.Cond) (a : Addr) (pl : Addr) (fi : Addr) (de : Addr) (ed : Addr) (pa : Addr) (el : Addr) (sp : Addr) (f1 : Int → Int32) (f2 : Int → Int32) (f3 : Int → Int32) (f4 : Int → Int32) (f5 : Int → Int32) (f6 : Int → Int32) (g : Int → Int32) (h0 : Heap) (n0 : Nat) (Zs : n0 ≤ h0.size) (E_a : Exa Z h0 a "com/example/nearstable/nearstable/maximal/Players") (F_player_a : Fld Z h0 a "com/example/nearstable/nearstable/maximal/Players" "player" "[I" (.ref pl)) (F_first_a : Fld Z h0 a "com/example/nearstable/nearstable/maximal/Players" "first" "[I" (.ref fi)) (F_degree_a : Fld Z h0 a "com/example/nearstable/nearstable/maximal/Players" "degree" "[I" (.ref de)) (F_edges_a : Fld Z h0 a "com/example/nearstable/nearstable/maximal/Players" "edges" "[I" (.ref ed)) (F_partner_a : Fld Z h0 a "com/example/nearstable/nearstable/maximal/Players" "partner" "[I" (.ref pa)) (F_edgeLeft_a : Fld Z h0 a "com/example/nearstable/nearstable/maximal/Players" "edgeLeft" "[Z" (.ref el)) (F_slotPlus1_a : Fld Z h0 a "com/example/nearstable/nearstable/maximal/Players" "slotPlus1" "[I" (.ref sp)) (F_slots_a : Fld Z h0 a "com/example/nearstable/nearstable/maximal/Players" "slots" "I" (.int (2 : Int32))) (F_edgeCount_a : Fld Z h0 a "com/example/nearstable/nearstable/maximal/Players" "edgeCount" "I" (.int (2 : Int32))) (A_pl : AF Z h0 pl .int 16 f1) (A_fi : AF Z h0 fi .int 16 f2) (A_de : AF Z h0 de .int 16 f3) (A_ed : AF Z h0 ed .int 16 f4) (A_pa : AF Z h0 pa .int 16 f5) (A_el : AF Z h0 el .boolean 16 f6) (A_sp : AF Z h0 sp .int 8 g) (g_a : n0 ≤ a) (g_pl : n0 ≤ pl) (g_fi : n0 ≤ fi) (g_de : n0 ≤ de) (g_ed : n0 ≤ ed) (g_pa : n0 ≤ pa) (g_el : n0 ≤ el) (g_sp : n0 ≤ sp) (ne_a_pl : a ≠ pl) (ne_a_fi : a ≠ fi) (ne_a_de : a ≠ de) (ne_a_ed : a ≠ ed) (ne_a_pa : a ≠ pa) (ne_a_el : a ≠ el) (ne_a_sp : a ≠ sp) (ne_pl_fi : pl ≠ fi) (ne_pl_de : pl ≠ de) (ne_pl_ed : pl ≠ ed) (ne_pl_pa : pl ≠ pa) (ne_pl_el : pl ≠ el) (ne_pl_sp : pl ≠ sp) (ne_fi_de : fi ≠ de) (ne_fi_ed : fi ≠ ed) (ne_fi_pa : fi ≠ pa) (ne_fi_el : fi ≠ el) (ne_fi_sp : fi ≠ sp) (ne_de_ed : de ≠ ed) (ne_de_pa : de ≠ pa) (ne_de_el : de ≠ el) (ne_de_sp : de ≠ sp) (ne_ed_pa : ed ≠ pa) (ne_ed_el : ed ≠ el) (ne_ed_sp : ed ≠ sp) (ne_pa_el : pa ≠ el) (ne_pa_sp : pa ≠ sp) (ne_el_sp : el ≠ sp) (hbd : 0 ≤ (f1 (0 : Int)).toInt ∧ (f1 (0 : Int)).toInt < 8 ∧ 0 ≤ (f1 (1 : Int)).toInt ∧ (f1 (1 : Int)).toInt < 8) :
    MetFree l (⟨"com/example/nearstable/nearstable/maximal/Players", "clear", "()V"⟩ : MethodName) (head1 (Jvm.Cond.code (⟨"com/example/nearstable/nearstable/maximal/Players", "clear", "()V"⟩ : MethodName) prog_53_method_13_code 2 none :: ws) ({ frames := 0, cells := 0, slots := 0, locals := 0 } : Room)) (fun as' U => as' = #[(.ref a)] ∧ Z.Warmed39 U.vm ∧ U.heap = h0) (fun _ _ _ _ _ => True) (fun _ U o U' => ∃ v L, o = .returned v ∧ Q3_2 Z a pl fi de ed pa el sp f1 f2 f3 f4 f5 f6 g h0 n0 v U'.heap L ∧ FrameEnd U o U' L ({ frames := 0, cells := 0, slots := 0, locals := 0 } : Room).cells ({ frames := 0, cells := 0, slots := 0, locals := 0 } : Room).slots) := by
  refine MetFree.of_bodySF (plainFor_of_name pn_1) hisR ?_
  intro p e s m args below meth c s₁ Bd hml0 hP hK
  obtain ⟨rfl, hZ, hh⟩ := hP
  have hx := Bd.exec
  have hby := Bd.bytes
  have hml : c.maxLocals = 2 := hml0
  have hown : s.vm.findClass "com/example/nearstable/nearstable/maximal/Players" = some m.cls := findClass_of_methodNamed Bd.named
  have hnm := (name_of_methodNamed Bd.named Bd.method).1
  have hlk : meth.locks = false := Bd.notSynchronized
  have X0 : Stand p l e ({ frames := 0, cells := 0, slots := 0, locals := 0 } : Room) s m #[(.ref a)] below meth c s₁ [] 0 0 := Stand.of_body Bd
  have e0 : s₁.heap = h0 := by rw [← hh, Bd.state]; rfl
  have Nf := Fr.nil n0
  refine (?_ : Win p.tables e below (PostQ s (Q3_2 Z a pl fi de ed pa el sp f1 f2 f3 f4 f5 f6 g h0 n0) ({ frames := 0, cells := 0, slots := 0, locals := 0 } : Room).cells ({ frames := 0, cells := 0, slots := 0, locals := 0 } : Room).slots) (s₁.setTop (entryFrame m #[(.ref a)] 2)))
  rw [ef_3_2]
  have Kp : Keep h0 h0 [a, sp] := Keep.refl h0 _
  have lt_a : a < h0.size := E_a.lt
  have lt_pl : pl < h0.size := A_pl.lt
  have lt_fi : fi < h0.size := A_fi.lt
  have lt_de : de < h0.size := A_de.lt
  have lt_ed : ed < h0.size := A_ed.lt
  have lt_pa : pa < h0.size := A_pa.lt
  have lt_el : el < h0.size := A_el.lt
  have lt_sp : sp < h0.size := A_sp.lt
  show Win p.tables e below _ (s₁.setTop (mkF m 0 #[.val (.ref a), .unset] []))
  refine s_iconst (pc' := 1) (z := (0 : Int32)) X0.here hx (hb hby d3_0) rfl rfl ?_
  refine s_istoreN (pc' := 2) (l' := #[.val (.ref a), .val (.int (0 : Int32))]) X0.here hx (hb hby d3_1) rfl rfl ?_
  refine s_iloadN (pc' := 3) X0.here hx (hb hby d3_2) rfl rfl ?_
  refine s_aloadN (pc' := 4) X0.here hx (hb hby d3_3) rfl rfl rfl ?_
  obtain ⟨T_91, X_91, e_91, st_91⟩ := getF X0 hx hZ hown (host := "") (Or.inl (hw _ (List.mem_of_getElem? (i := 31) rfl))) Via.refl e0 F_slots_a (g := (mkF m 4 #[.val (.ref a), .val (.int (0 : Int32))] [(.ref a), (.int (0 : Int32))])) rfl rfl (hb hby d3_4)
  refine Win.go st_91 ?_
  clear st_91 X0 e0
  show Win p.tables e below _ (T_91.setTop (mkF m 7 #[.val (.ref a), .val (.int (0 : Int32))] [(.int (2 : Int32)), (.int (0 : Int32))]))
  refine s_icmpNo (pc' := 10) X_91.here hx (hb hby d3_7) rfl (tltI (x := (0 : Int32)) (y := (2 : Int32)) (by decide)).2.1 ?_
  refine s_aloadN (pc' := 11) X_91.here hx (hb hby d3_10) rfl rfl rfl ?_
  obtain ⟨T_92, X_92, e_92, st_92⟩ := getF X_91 hx hZ hown (host := "") (Or.inl (hw _ (List.mem_of_getElem? (i := 24) rfl))) Via.refl e_91 F_slotPlus1_a (g := (mkF m 11 #[.val (.ref a), .val (.int (0 : Int32))] [(.ref a)])) rfl rfl (hb hby d3_11)
  refine Win.go st_92 ?_
  clear st_92 X_91 e_91
  show Win p.tables e below _ (T_92.setTop (mkF m 14 #[.val (.ref a), .val (.int (0 : Int32))] [(.ref sp)]))
  refine s_aloadN (pc' := 15) X_92.here hx (hb hby d3_14) rfl rfl rfl ?_
  obtain ⟨T_93, X_93, e_93, st_93⟩ := getF X_92 hx hZ hown (host := "") (Or.inl (hw _ (List.mem_of_getElem? (i := 11) rfl))) Via.refl e_92 F_player_a (g := (mkF m 15 #[.val (.ref a), .val (.int (0 : Int32))] [(.ref a), (.ref sp)])) rfl rfl (hb hby d3_15)
  refine Win.go st_93 ?_
  clear st_93 X_92 e_92
  show Win p.tables e below _ (T_93.setTop (mkF m 18 #[.val (.ref a), .val (.int (0 : Int32))] [(.ref pl), (.ref sp)]))
  refine s_iloadN (pc' := 19) X_93.here hx (hb hby d3_18) rfl rfl ?_
  obtain ⟨cl_94, Ar_94, S_94, G_94⟩ := id A_pl
  have hb_94 : 0 ≤ ((0 : Int32)).toInt ∧ ((0 : Int32)).toInt < 16 := by decide
  refine Win.go (fun _ k => X_93.iaload hx (j := (0 : Int32)) (v := (.int (f1 (0 : Int)))) (by rw [e_93]; exact Ar_94.1) (State.isArrayOf_alike hZ.alike Ar_94.2.1) Ar_94.2.2 (AF.inb S_94 hb_94) (G_94 _ hb_94.1 hb_94.2) (g := (mkF m 19 #[.val (.ref a), .val (.int (0 : Int32))] [(.int (0 : Int32)), (.ref pl), (.ref sp)])) rfl rfl (hb hby d3_19) _ k) ?_
  show Win p.tables e below _ (T_93.setTop (mkF m 20 #[.val (.ref a), .val (.int (0 : Int32))] [(.int (f1 (0 : Int))), (.ref sp)]))
  clear Ar_94 S_94 G_94 hb_94
  refine s_iconst (pc' := 21) (z := (0 : Int32)) X_93.here hx (hb hby d3_20) rfl rfl ?_
  obtain ⟨cl_95, Ar_95, S_95, G_95⟩ := id A_sp
  have hb_95 : 0 ≤ ((f1 (0 : Int))).toInt ∧ ((f1 (0 : Int))).toInt < 8 := by omega
  obtain ⟨T_95, h_95, X_95, e_95, W_95, st_95⟩ := stI X_93 hx hZ e_93 Ar_95 (j := (f1 (0 : Int))) (AF.inb S_95 hb_95) (g := (mkF m 21 #[.val (.ref a), .val (.int (0 : Int32))] [(.int (0 : Int32)), (.int (f1 (0 : Int))), (.ref sp)])) rfl rfl (hb hby d3_21)
  have A_95 : AF Z h_95 sp .int 8 (updF g ((f1 (0 : Int))).toInt (0 : Int32)) := AF.set Ar_95 S_95 G_95 W_95 hb_95
  replace E_a := E_a.wr W_95
  replace F_player_a := F_player_a.other W_95 (Or.inl ne_a_sp)
  replace F_first_a := F_first_a.other W_95 (Or.inl ne_a_sp)
  replace F_degree_a := F_degree_a.other W_95 (Or.inl ne_a_sp)
  replace F_edges_a := F_edges_a.other W_95 (Or.inl ne_a_sp)
  replace F_partner_a := F_partner_a.other W_95 (Or.inl ne_a_sp)
  replace F_edgeLeft_a := F_edgeLeft_a.other W_95 (Or.inl ne_a_sp)
  replace F_slotPlus1_a := F_slotPlus1_a.other W_95 (Or.inl ne_a_sp)
  replace F_slots_a := F_slots_a.other W_95 (Or.inl ne_a_sp)
  replace F_edgeCount_a := F_edgeCount_a.other W_95 (Or.inl ne_a_sp)
  replace A_pl := A_pl.other W_95 ne_pl_sp
  replace A_fi := A_fi.other W_95 ne_fi_sp
  replace A_de := A_de.other W_95 ne_de_sp
  replace A_ed := A_ed.other W_95 ne_ed_sp
  replace A_pa := A_pa.other W_95 ne_pa_sp
  replace A_el := A_el.other W_95 ne_el_sp
  replace lt_a := Nat.lt_of_lt_of_le lt_a (Keep.of_wr W_95).1
  replace lt_pl := Nat.lt_of_lt_of_le lt_pl (Keep.of_wr W_95).1
  replace lt_fi := Nat.lt_of_lt_of_le lt_fi (Keep.of_wr W_95).1
  replace lt_de := Nat.lt_of_lt_of_le lt_de (Keep.of_wr W_95).1
  replace lt_ed := Nat.lt_of_lt_of_le lt_ed (Keep.of_wr W_95).1
  replace lt_pa := Nat.lt_of_lt_of_le lt_pa (Keep.of_wr W_95).1
  replace lt_el := Nat.lt_of_lt_of_le lt_el (Keep.of_wr W_95).1
  replace lt_sp := Nat.lt_of_lt_of_le lt_sp (Keep.of_wr W_95).1
  replace Zs := Nat.le_trans Zs (Keep.of_wr W_95).1
  replace Kp := Kp.wr W_95 (Or.inl (by simp))
  replace A_sp := A_95
  replace Nf := Fr.snoc X_95 Nf g_sp
  refine Win.go st_95 ?_
  clear st_95 W_95 A_95 Ar_95 S_95 G_95 hb_95 X_93 e_93
  show Win p.tables e below _ (T_95.setTop (mkF m 22 #[.val (.ref a), .val (.int (0 : Int32))] []))
  refine Win.go (fun _ k => XS.iinc X_95.here hx rfl (hb hby d3_22) rfl (l' := #[.val (.ref a), .val (.int (1 : Int32))]) rfl k) ?_
  show Win p.tables e below _ (T_95.setTop (mkF m 25 #[.val (.ref a), .val (.int (1 : Int32))] []))
  refine s_goto (pc' := 2) X_95.here hx (hb hby d3_25) (by decide) (by decide) ?_
  refine s_iloadN (pc' := 3) X_95.here hx (hb hby d3_2) rfl rfl ?_
  refine s_aloadN (pc' := 4) X_95.here hx (hb hby d3_3) rfl rfl rfl ?_
  obtain ⟨T_96, X_96, e_96, st_96⟩ := getF X_95 hx hZ hown (host := "") (Or.inl (hw _ (List.mem_of_getElem? (i := 31) rfl))) Via.refl e_95 F_slots_a (g := (mkF m 4 #[.val (.ref a), .val (.int (1 : Int32))] [(.ref a), (.int (1 : Int32))])) rfl rfl (hb hby d3_4)
  refine Win.go st_96 ?_
  clear st_96 X_95 e_95
  show Win p.tables e below _ (T_96.setTop (mkF m 7 #[.val (.ref a), .val (.int (1 : Int32))] [(.int (2 : Int32)), (.int (1 : Int32))]))
  refine s_icmpNo (pc' := 10) X_96.here hx (hb hby d3_7) rfl (tltI (x := (1 : Int32)) (y := (2 : Int32)) (by decide)).2.1 ?_
  refine s_aloadN (pc' := 11) X_96.here hx (hb hby d3_10) rfl rfl rfl ?_
  obtain ⟨T_97, X_97, e_97, st_97⟩ := getF X_96 hx hZ hown (host := "") (Or.inl (hw _ (List.mem_of_getElem? (i := 24) rfl))) Via.refl e_96 F_slotPlus1_a (g := (mkF m 11 #[.val (.ref a), .val (.int (1 : Int32))] [(.ref a)])) rfl rfl (hb hby d3_11)
  refine Win.go st_97 ?_
  clear st_97 X_96 e_96
  show Win p.tables e below _ (T_97.setTop (mkF m 14 #[.val (.ref a), .val (.int (1 : Int32))] [(.ref sp)]))
  refine s_aloadN (pc' := 15) X_97.here hx (hb hby d3_14) rfl rfl rfl ?_
  obtain ⟨T_98, X_98, e_98, st_98⟩ := getF X_97 hx hZ hown (host := "") (Or.inl (hw _ (List.mem_of_getElem? (i := 11) rfl))) Via.refl e_97 F_player_a (g := (mkF m 15 #[.val (.ref a), .val (.int (1 : Int32))] [(.ref a), (.ref sp)])) rfl rfl (hb hby d3_15)
  refine Win.go st_98 ?_
  clear st_98 X_97 e_97
  show Win p.tables e below _ (T_98.setTop (mkF m 18 #[.val (.ref a), .val (.int (1 : Int32))] [(.ref pl), (.ref sp)]))
  refine s_iloadN (pc' := 19) X_98.here hx (hb hby d3_18) rfl rfl ?_
  obtain ⟨cl_99, Ar_99, S_99, G_99⟩ := id A_pl
  have hb_99 : 0 ≤ ((1 : Int32)).toInt ∧ ((1 : Int32)).toInt < 16 := by decide
  refine Win.go (fun _ k => X_98.iaload hx (j := (1 : Int32)) (v := (.int (f1 (1 : Int)))) (by rw [e_98]; exact Ar_99.1) (State.isArrayOf_alike hZ.alike Ar_99.2.1) Ar_99.2.2 (AF.inb S_99 hb_99) (G_99 _ hb_99.1 hb_99.2) (g := (mkF m 19 #[.val (.ref a), .val (.int (1 : Int32))] [(.int (1 : Int32)), (.ref pl), (.ref sp)])) rfl rfl (hb hby d3_19) _ k) ?_
  show Win p.tables e below _ (T_98.setTop (mkF m 20 #[.val (.ref a), .val (.int (1 : Int32))] [(.int (f1 (1 : Int))), (.ref sp)]))
  clear Ar_99 S_99 G_99 hb_99
  refine s_iconst (pc' := 21) (z := (0 : Int32)) X_98.here hx (hb hby d3_20) rfl rfl ?_
  obtain ⟨cl_100, Ar_100, S_100, G_100⟩ := id A_sp
  have hb_100 : 0 ≤ ((f1 (1 : Int))).toInt ∧ ((f1 (1 : Int))).toInt < 8 := by omega
  obtain ⟨T_100, h_100, X_100, e_100, W_100, st_100⟩ := stI X_98 hx hZ e_98 Ar_100 (j := (f1 (1 : Int))) (AF.inb S_100 hb_100) (g := (mkF m 21 #[.val (.ref a), .val (.int (1 : Int32))] [(.int (0 : Int32)), (.int (f1 (1 : Int))), (.ref sp)])) rfl rfl (hb hby d3_21)
  have A_100 : AF Z h_100 sp .int 8 (updF (updF g ((f1 (0 : Int))).toInt (0 : Int32)) ((f1 (1 : Int))).toInt (0 : Int32)) := AF.set Ar_100 S_100 G_100 W_100 hb_100
  replace E_a := E_a.wr W_100
  replace F_player_a := F_player_a.other W_100 (Or.inl ne_a_sp)
  replace F_first_a := F_first_a.other W_100 (Or.inl ne_a_sp)
  replace F_degree_a := F_degree_a.other W_100 (Or.inl ne_a_sp)
  replace F_edges_a := F_edges_a.other W_100 (Or.inl ne_a_sp)
  replace F_partner_a := F_partner_a.other W_100 (Or.inl ne_a_sp)
  replace F_edgeLeft_a := F_edgeLeft_a.other W_100 (Or.inl ne_a_sp)
  replace F_slotPlus1_a := F_slotPlus1_a.other W_100 (Or.inl ne_a_sp)
  replace F_slots_a := F_slots_a.other W_100 (Or.inl ne_a_sp)
  replace F_edgeCount_a := F_edgeCount_a.other W_100 (Or.inl ne_a_sp)
  replace A_pl := A_pl.other W_100 ne_pl_sp
  replace A_fi := A_fi.other W_100 ne_fi_sp
  replace A_de := A_de.other W_100 ne_de_sp
  replace A_ed := A_ed.other W_100 ne_ed_sp
  replace A_pa := A_pa.other W_100 ne_pa_sp
  replace A_el := A_el.other W_100 ne_el_sp
  replace lt_a := Nat.lt_of_lt_of_le lt_a (Keep.of_wr W_100).1
  replace lt_pl := Nat.lt_of_lt_of_le lt_pl (Keep.of_wr W_100).1
  replace lt_fi := Nat.lt_of_lt_of_le lt_fi (Keep.of_wr W_100).1
  replace lt_de := Nat.lt_of_lt_of_le lt_de (Keep.of_wr W_100).1
  replace lt_ed := Nat.lt_of_lt_of_le lt_ed (Keep.of_wr W_100).1
  replace lt_pa := Nat.lt_of_lt_of_le lt_pa (Keep.of_wr W_100).1
  replace lt_el := Nat.lt_of_lt_of_le lt_el (Keep.of_wr W_100).1
  replace lt_sp := Nat.lt_of_lt_of_le lt_sp (Keep.of_wr W_100).1
  replace Zs := Nat.le_trans Zs (Keep.of_wr W_100).1
  replace Kp := Kp.wr W_100 (Or.inl (by simp))
  replace A_sp := A_100
  replace Nf := Fr.snoc X_100 Nf g_sp
  refine Win.go st_100 ?_
  clear st_100 W_100 A_100 Ar_100 S_100 G_100 hb_100 X_98 e_98
  show Win p.tables e below _ (T_100.setTop (mkF m 22 #[.val (.ref a), .val (.int (1 : Int32))] []))
  refine Win.go (fun _ k => XS.iinc X_100.here hx rfl (hb hby d3_22) rfl (l' := #[.val (.ref a), .val (.int (2 : Int32))]) rfl k) ?_
  show Win p.tables e below _ (T_100.setTop (mkF m 25 #[.val (.ref a), .val (.int (2 : Int32))] []))
  refine s_goto (pc' := 2) X_100.here hx (hb hby d3_25) (by decide) (by decide) ?_
  refine s_iloadN (pc' := 3) X_100.here hx (hb hby d3_2) rfl rfl ?_
  refine s_aloadN (pc' := 4) X_100.here hx (hb hby d3_3) rfl rfl rfl ?_
  obtain ⟨T_101, X_101, e_101, st_101⟩ := getF X_100 hx hZ hown (host := "") (Or.inl (hw _ (List.mem_of_getElem? (i := 31) rfl))) Via.refl e_100 F_slots_a (g := (mkF m 4 #[.val (.ref a), .val (.int (2 : Int32))] [(.ref a), (.int (2 : Int32))])) rfl rfl (hb hby d3_4)
  refine Win.go st_101 ?_
  clear st_101 X_100 e_100
  show Win p.tables e below _ (T_101.setTop (mkF m 7 #[.val (.ref a), .val (.int (2 : Int32))] [(.int (2 : Int32)), (.int (2 : Int32))]))
  refine s_icmpYes (pc' := 28) X_101.here hx (hb hby d3_7) (fltI (x := (2 : Int32)) (y := (2 : Int32)) (by decide)).2.1 (by decide) (by decide) ?_
  refine s_aloadN (pc' := 29) X_101.here hx (hb hby d3_28) rfl rfl rfl ?_
  refine s_iconst (pc' := 30) (z := (0 : Int32)) X_101.here hx (hb hby d3_29) rfl rfl ?_
  obtain ⟨T_102, h_102, X_102, e_102, W_102, st_102⟩ := putF X_101 hx hZ hown (host := "") (Or.inl (hw _ (List.mem_of_getElem? (i := 31) rfl))) Via.refl e_101 F_slots_a E_a (Or.inl (hw _ (List.mem_of_getElem? (i := 32) rfl))) (hw _ (List.mem_of_getElem? (i := 2) rfl)) (ty := .int) (by decide) rfl rfl (g := (mkF m 30 #[.val (.ref a), .val (.int (2 : Int32))] [(.int (0 : Int32)), (.ref a)])) rfl rfl (hb hby d3_30)
  replace E_a := E_a.wr W_102
  replace F_player_a := F_player_a.other W_102 (Or.inr (slot_ne (Or.inl (hw _ (List.mem_of_getElem? (i := 12) rfl))) (Or.inl (hw _ (List.mem_of_getElem? (i := 32) rfl))) (by decide) (t := (.array .int)) (t' := .int) (by decide) (by decide)))
  replace F_first_a := F_first_a.other W_102 (Or.inr (slot_ne (Or.inl (hw _ (List.mem_of_getElem? (i := 14) rfl))) (Or.inl (hw _ (List.mem_of_getElem? (i := 32) rfl))) (by decide) (t := (.array .int)) (t' := .int) (by decide) (by decide)))
  replace F_degree_a := F_degree_a.other W_102 (Or.inr (slot_ne (Or.inl (hw _ (List.mem_of_getElem? (i := 16) rfl))) (Or.inl (hw _ (List.mem_of_getElem? (i := 32) rfl))) (by decide) (t := (.array .int)) (t' := .int) (by decide) (by decide)))
  replace F_edges_a := F_edges_a.other W_102 (Or.inr (slot_ne (Or.inl (hw _ (List.mem_of_getElem? (i := 18) rfl))) (Or.inl (hw _ (List.mem_of_getElem? (i := 32) rfl))) (by decide) (t := (.array .int)) (t' := .int) (by decide) (by decide)))
  replace F_partner_a := F_partner_a.other W_102 (Or.inr (slot_ne (Or.inl (hw _ (List.mem_of_getElem? (i := 20) rfl))) (Or.inl (hw _ (List.mem_of_getElem? (i := 32) rfl))) (by decide) (t := (.array .int)) (t' := .int) (by decide) (by decide)))
  replace F_edgeLeft_a := F_edgeLeft_a.other W_102 (Or.inr (slot_ne (Or.inl (hw _ (List.mem_of_getElem? (i := 23) rfl))) (Or.inl (hw _ (List.mem_of_getElem? (i := 32) rfl))) (by decide) (t := (.array .boolean)) (t' := .int) (by decide) (by decide)))
  replace F_slotPlus1_a := F_slotPlus1_a.other W_102 (Or.inr (slot_ne (Or.inr (hw _ (List.mem_of_getElem? (i := 25) rfl))) (Or.inl (hw _ (List.mem_of_getElem? (i := 32) rfl))) (by decide) (t := (.array .int)) (t' := .int) (by decide) (by decide)))
  replace F_edgeCount_a := F_edgeCount_a.other W_102 (Or.inr (slot_ne (Or.inl (hw _ (List.mem_of_getElem? (i := 34) rfl))) (Or.inl (hw _ (List.mem_of_getElem? (i := 32) rfl))) (by decide) (t := .int) (t' := .int) (by decide) (by decide)))
  replace A_pl := A_pl.other W_102 (Ne.symm ne_a_pl)
  replace A_fi := A_fi.other W_102 (Ne.symm ne_a_fi)
  replace A_de := A_de.other W_102 (Ne.symm ne_a_de)
  replace A_ed := A_ed.other W_102 (Ne.symm ne_a_ed)
  replace A_pa := A_pa.other W_102 (Ne.symm ne_a_pa)
  replace A_el := A_el.other W_102 (Ne.symm ne_a_el)
  replace A_sp := A_sp.other W_102 (Ne.symm ne_a_sp)
  replace lt_a := Nat.lt_of_lt_of_le lt_a (Keep.of_wr W_102).1
  replace lt_pl := Nat.lt_of_lt_of_le lt_pl (Keep.of_wr W_102).1
  replace lt_fi := Nat.lt_of_lt_of_le lt_fi (Keep.of_wr W_102).1
  replace lt_de := Nat.lt_of_lt_of_le lt_de (Keep.of_wr W_102).1
  replace lt_ed := Nat.lt_of_lt_of_le lt_ed (Keep.of_wr W_102).1
  replace lt_pa := Nat.lt_of_lt_of_le lt_pa (Keep.of_wr W_102).1
  replace lt_el := Nat.lt_of_lt_of_le lt_el (Keep.of_wr W_102).1
  replace lt_sp := Nat.lt_of_lt_of_le lt_sp (Keep.of_wr W_102).1
  replace Zs := Nat.le_trans Zs (Keep.of_wr W_102).1
  replace Kp := Kp.wr W_102 (Or.inl (by simp))
  replace F_slots_a := F_slots_a.same W_102
  replace Nf := Fr.snoc X_102 Nf g_a
  refine Win.go st_102 ?_
  clear st_102 W_102 X_101 e_101
  show Win p.tables e below _ (T_102.setTop (mkF m 33 #[.val (.ref a), .val (.int (2 : Int32))] []))
  refine s_aloadN (pc' := 34) X_102.here hx (hb hby d3_33) rfl rfl rfl ?_
  refine s_iconst (pc' := 35) (z := (0 : Int32)) X_102.here hx (hb hby d3_34) rfl rfl ?_
  obtain ⟨T_103, h_103, X_103, e_103, W_103, st_103⟩ := putF X_102 hx hZ hown (host := "") (Or.inl (hw _ (List.mem_of_getElem? (i := 33) rfl))) Via.refl e_102 F_edgeCount_a E_a (Or.inl (hw _ (List.mem_of_getElem? (i := 34) rfl))) (hw _ (List.mem_of_getElem? (i := 2) rfl)) (ty := .int) (by decide) rfl rfl (g := (mkF m 35 #[.val (.ref a), .val (.int (2 : Int32))] [(.int (0 : Int32)), (.ref a)])) rfl rfl (hb hby d3_35)
  replace E_a := E_a.wr W_103
  replace F_player_a := F_player_a.other W_103 (Or.inr (slot_ne (Or.inl (hw _ (List.mem_of_getElem? (i := 12) rfl))) (Or.inl (hw _ (List.mem_of_getElem? (i := 34) rfl))) (by decide) (t := (.array .int)) (t' := .int) (by decide) (by decide)))
  replace F_first_a := F_first_a.other W_103 (Or.inr (slot_ne (Or.inl (hw _ (List.mem_of_getElem? (i := 14) rfl))) (Or.inl (hw _ (List.mem_of_getElem? (i := 34) rfl))) (by decide) (t := (.array .int)) (t' := .int) (by decide) (by decide)))
  replace F_degree_a := F_degree_a.other W_103 (Or.inr (slot_ne (Or.inl (hw _ (List.mem_of_getElem? (i := 16) rfl))) (Or.inl (hw _ (List.mem_of_getElem? (i := 34) rfl))) (by decide) (t := (.array .int)) (t' := .int) (by decide) (by decide)))
  replace F_edges_a := F_edges_a.other W_103 (Or.inr (slot_ne (Or.inl (hw _ (List.mem_of_getElem? (i := 18) rfl))) (Or.inl (hw _ (List.mem_of_getElem? (i := 34) rfl))) (by decide) (t := (.array .int)) (t' := .int) (by decide) (by decide)))
  replace F_partner_a := F_partner_a.other W_103 (Or.inr (slot_ne (Or.inl (hw _ (List.mem_of_getElem? (i := 20) rfl))) (Or.inl (hw _ (List.mem_of_getElem? (i := 34) rfl))) (by decide) (t := (.array .int)) (t' := .int) (by decide) (by decide)))
  replace F_edgeLeft_a := F_edgeLeft_a.other W_103 (Or.inr (slot_ne (Or.inl (hw _ (List.mem_of_getElem? (i := 23) rfl))) (Or.inl (hw _ (List.mem_of_getElem? (i := 34) rfl))) (by decide) (t := (.array .boolean)) (t' := .int) (by decide) (by decide)))
  replace F_slotPlus1_a := F_slotPlus1_a.other W_103 (Or.inr (slot_ne (Or.inr (hw _ (List.mem_of_getElem? (i := 25) rfl))) (Or.inl (hw _ (List.mem_of_getElem? (i := 34) rfl))) (by decide) (t := (.array .int)) (t' := .int) (by decide) (by decide)))
  replace F_slots_a := F_slots_a.other W_103 (Or.inr (slot_ne (Or.inl (hw _ (List.mem_of_getElem? (i := 32) rfl))) (Or.inl (hw _ (List.mem_of_getElem? (i := 34) rfl))) (by decide) (t := .int) (t' := .int) (by decide) (by decide)))
  replace A_pl := A_pl.other W_103 (Ne.symm ne_a_pl)
  replace A_fi := A_fi.other W_103 (Ne.symm ne_a_fi)
  replace A_de := A_de.other W_103 (Ne.symm ne_a_de)
  replace A_ed := A_ed.other W_103 (Ne.symm ne_a_ed)
  replace A_pa := A_pa.other W_103 (Ne.symm ne_a_pa)
  replace A_el := A_el.other W_103 (Ne.symm ne_a_el)
  replace A_sp := A_sp.other W_103 (Ne.symm ne_a_sp)
  replace lt_a := Nat.lt_of_lt_of_le lt_a (Keep.of_wr W_103).1
  replace lt_pl := Nat.lt_of_lt_of_le lt_pl (Keep.of_wr W_103).1
  replace lt_fi := Nat.lt_of_lt_of_le lt_fi (Keep.of_wr W_103).1
  replace lt_de := Nat.lt_of_lt_of_le lt_de (Keep.of_wr W_103).1
  replace lt_ed := Nat.lt_of_lt_of_le lt_ed (Keep.of_wr W_103).1
  replace lt_pa := Nat.lt_of_lt_of_le lt_pa (Keep.of_wr W_103).1
  replace lt_el := Nat.lt_of_lt_of_le lt_el (Keep.of_wr W_103).1
  replace lt_sp := Nat.lt_of_lt_of_le lt_sp (Keep.of_wr W_103).1
  replace Zs := Nat.le_trans Zs (Keep.of_wr W_103).1
  replace Kp := Kp.wr W_103 (Or.inl (by simp))
  replace F_edgeCount_a := F_edgeCount_a.same W_103
  replace Nf := Fr.snoc X_103 Nf g_a
  refine Win.go st_103 ?_
  clear st_103 W_103 X_102 e_102
  show Win p.tables e below _ (T_103.setTop (mkF m 38 #[.val (.ref a), .val (.int (2 : Int32))] []))
  refine winV X_103 hx hlk e_103 Bd.returns (hb hby d3_38) (by decide) (by decide) ?_
  exact ⟨Nf, Kp, F_player_a, F_first_a, F_degree_a, F_edges_a, F_partner_a, F_edgeLeft_a, F_slotPlus1_a, F_slots_a, F_edgeCount_a, A_sp, rfl⟩
theorem d4_0 : decode prog_53_method_3_code 0 = .ok (.aload_n 0, 1) := by decide +kernel
theorem d4_1 : decode prog_53_method_3_code 1 = .ok (.getfield 36, 3) := by decide +kernel
theorem d4_4 : decode prog_53_method_3_code 4 = .ok (.ireturn, 1) := by decide +kernel
theorem ef_4 (m : MethodId) (a : Addr) : entryFrame m #[(.ref a)] 1 = mkF m 0 #[.val (.ref a)] [] := by first | (simp [entryFrame, mkF, argsToLocals, Value.category]; done) | rfl
def Q4 (Z : State) (a : Addr) (u : Int32) (h0 : Heap) (n0 : Nat) (v : Option Value) (h : Heap) (L : List Loc) : Prop := Fr n0 L ∧ h = h0 ∧ v = some (.int u)
set_option maxRecDepth 65536 in
set_option maxHeartbeats 40000000 in
theorem rm4 (l : Launch) (Z : State) (a0 : Array Value) (hw : ∀ d ∈ tables_1, d.before a0 Z = true) (ws : List Jvm.Cond) (a : Addr) (u : Int32) (h0 : Heap) (n0 : Nat) (Zs : n0 ≤ h0.size) (F_slots_a : Fld Z h0 a "com/example/nearstable/nearstable/maximal/Players" "slots" "I" (.int u)) :
    MetFree l (⟨"com/example/nearstable/nearstable/maximal/Players", "slots", "()I"⟩ : MethodName) (head1 (Jvm.Cond.code (⟨"com/example/nearstable/nearstable/maximal/Players", "slots", "()I"⟩ : MethodName) prog_53_method_3_code 1 (some .int) :: ws) ({ frames := 0, cells := 0, slots := 0, locals := 0 } : Room)) (fun as' U => as' = #[(.ref a)] ∧ Z.Warmed39 U.vm ∧ U.heap = h0) (fun _ _ _ _ _ => True) (fun _ U o U' => ∃ v L, o = .returned v ∧ Q4 Z a u h0 n0 v U'.heap L ∧ FrameEnd U o U' L ({ frames := 0, cells := 0, slots := 0, locals := 0 } : Room).cells ({ frames := 0, cells := 0, slots := 0, locals := 0 } : Room).slots) := by
  refine MetFree.of_bodySF (plainFor_of_name pn_1) hisR ?_
  intro p e s m args below meth c s₁ Bd hml0 hP hK
  obtain ⟨rfl, hZ, hh⟩ := hP
  have hx := Bd.exec
  have hby := Bd.bytes
  have hml : c.maxLocals = 1 := hml0
  have hown : s.vm.findClass "com/example/nearstable/nearstable/maximal/Players" = some m.cls := findClass_of_methodNamed Bd.named
  have hnm := (name_of_methodNamed Bd.named Bd.method).1
  have hlk : meth.locks = false := Bd.notSynchronized
  have X0 : Stand p l e ({ frames := 0, cells := 0, slots := 0, locals := 0 } : Room) s m #[(.ref a)] below meth c s₁ [] 0 0 := Stand.of_body Bd
  have e0 : s₁.heap = h0 := by rw [← hh, Bd.state]; rfl
  have Nf := Fr.nil n0
  refine (?_ : Win p.tables e below (PostQ s (Q4 Z a u h0 n0) ({ frames := 0, cells := 0, slots := 0, locals := 0 } : Room).cells ({ frames := 0, cells := 0, slots := 0, locals := 0 } : Room).slots) (s₁.setTop (entryFrame m #[(.ref a)] 1)))
  rw [ef_4]
  have lt_a : a < h0.size := F_slots_a.lt
  show Win p.tables e below _ (s₁.setTop (mkF m 0 #[.val (.ref a)] []))
  refine s_aloadN (pc' := 1) X0.here hx (hb hby d4_0) rfl rfl rfl ?_
  obtain ⟨T_104, X_104, e_104, st_104⟩ := getF X0 hx hZ hown (host := "") (Or.inl (hw _ (List.mem_of_getElem? (i := 31) rfl))) Via.refl e0 F_slots_a (g := (mkF m 1 #[.val (.ref a)] [(.ref a)])) rfl rfl (hb hby d4_1)
  refine Win.go st_104 ?_
  clear st_104 X0 e0
  show Win p.tables e below _ (T_104.setTop (mkF m 4 #[.val (.ref a)] [(.int u)]))
  refine winI X_104 hx hlk e_104 Bd.returns (hb hby d4_4) (by decide) (by decide) ?_
  exact ⟨Nf, rfl, rfl⟩
theorem d5_0 : decode prog_53_method_7_code 0 = .ok (.aload_n 0, 1) := by decide +kernel
theorem d5_1 : decode prog_53_method_7_code 1 = .ok (.getfield 29, 3) := by decide +kernel
theorem d5_4 : decode prog_53_method_7_code 4 = .ok (.iload_n 1, 1) := by decide +kernel
theorem d5_5 : decode prog_53_method_7_code 5 = .ok (.iaload, 1) := by decide +kernel
theorem d5_6 : decode prog_53_method_7_code 6 = .ok (.iconst 1, 1) := by decide +kernel
theorem d5_7 : decode prog_53_method_7_code 7 = .ok (.isub, 1) := by decide +kernel
theorem d5_8 : decode prog_53_method_7_code 8 = .ok (.ireturn, 1) := by decide +kernel
theorem ef_5 (m : MethodId) (a : Addr) (p1 : Int32) : entryFrame m #[(.ref a), (.int p1)] 2 = mkF m 0 #[.val (.ref a), .val (.int p1)] [] := by first | (simp [entryFrame, mkF, argsToLocals, Value.category]; done) | rfl
def Q5 (Z : State) (a : Addr) (p1 : Int32) (sp : Addr) (g : Int → Int32) (h0 : Heap) (n0 : Nat) (v : Option Value) (h : Heap) (L : List Loc) : Prop := Fr n0 L ∧ h = h0 ∧ v = some (.int ((g (p1).toInt) - (1 : Int32)))
set_option maxRecDepth 65536 in
set_option maxHeartbeats 40000000 in
theorem rm5 (l : Launch) (Z : State) (a0 : Array Value) (hw : ∀ d ∈ tables_1, d.before a0 Z = true) (ws : List Jvm.Cond) (a : Addr) (p1 : Int32) (sp : Addr) (g : Int → Int32) (h0 : Heap) (n0 : Nat) (Zs : n0 ≤ h0.size) (F_slotPlus1_a : Fld Z h0 a "com/example/nearstable/nearstable/maximal/Players" "slotPlus1" "[I" (.ref sp)) (A_sp : AF Z h0 sp .int 8 g) (hbd : 0 ≤ p1.toInt ∧ p1.toInt < 8) :
    MetFree l (⟨"com/example/nearstable/nearstable/maximal/Players", "slot", "(I)I"⟩ : MethodName) (head1 (Jvm.Cond.code (⟨"com/example/nearstable/nearstable/maximal/Players", "slot", "(I)I"⟩ : MethodName) prog_53_method_7_code 2 (some .int) :: ws) ({ frames := 0, cells := 0, slots := 0, locals := 0 } : Room)) (fun as' U => as' = #[(.ref a), (.int p1)] ∧ Z.Warmed39 U.vm ∧ U.heap = h0) (fun _ _ _ _ _ => True) (fun _ U o U' => ∃ v L, o = .returned v ∧ Q5 Z a p1 sp g h0 n0 v U'.heap L ∧ FrameEnd U o U' L ({ frames := 0, cells := 0, slots := 0, locals := 0 } : Room).cells ({ frames := 0, cells := 0, slots := 0, locals := 0 } : Room).slots) := by
  refine MetFree.of_bodySF (plainFor_of_name pn_1) hisR ?_
  intro p e s m args below meth c s₁ Bd hml0 hP hK
  obtain ⟨rfl, hZ, hh⟩ := hP
  have hx := Bd.exec
  have hby := Bd.bytes
  have hml : c.maxLocals = 2 := hml0
  have hown : s.vm.findClass "com/example/nearstable/nearstable/maximal/Players" = some m.cls := findClass_of_methodNamed Bd.named
  have hnm := (name_of_methodNamed Bd.named Bd.method).1
  have hlk : meth.locks = false := Bd.notSynchronized
  have X0 : Stand p l e ({ frames := 0, cells := 0, slots := 0, locals := 0 } : Room) s m #[(.ref a), (.int p1)] below meth c s₁ [] 0 0 := Stand.of_body Bd
  have e0 : s₁.heap = h0 := by rw [← hh, Bd.state]; rfl
  have Nf := Fr.nil n0
  refine (?_ : Win p.tables e below (PostQ s (Q5 Z a p1 sp g h0 n0) ({ frames := 0, cells := 0, slots := 0, locals := 0 } : Room).cells ({ frames := 0, cells := 0, slots := 0, locals := 0 } : Room).slots) (s₁.setTop (entryFrame m #[(.ref a), (.int p1)] 2)))
  rw [ef_5]
  have lt_a : a < h0.size := F_slotPlus1_a.lt
  have lt_sp : sp < h0.size := A_sp.lt
  show Win p.tables e below _ (s₁.setTop (mkF m 0 #[.val (.ref a), .val (.int p1)] []))
  refine s_aloadN (pc' := 1) X0.here hx (hb hby d5_0) rfl rfl rfl ?_
  obtain ⟨T_105, X_105, e_105, st_105⟩ := getF X0 hx hZ hown (host := "") (Or.inl (hw _ (List.mem_of_getElem? (i := 24) rfl))) Via.refl e0 F_slotPlus1_a (g := (mkF m 1 #[.val (.ref a), .val (.int p1)] [(.ref a)])) rfl rfl (hb hby d5_1)
  refine Win.go st_105 ?_
  clear st_105 X0 e0
  show Win p.tables e below _ (T_105.setTop (mkF m 4 #[.val (.ref a), .val (.int p1)] [(.ref sp)]))
  refine s_iloadN (pc' := 5) X_105.here hx (hb hby d5_4) rfl rfl ?_
  obtain ⟨cl_106, Ar_106, S_106, G_106⟩ := id A_sp
  have hb_106 : 0 ≤ (p1).toInt ∧ (p1).toInt < 8 := by omega
  refine Win.go (fun _ k => X_105.iaload hx (j := p1) (v := (.int (g (p1).toInt))) (by rw [e_105]; exact Ar_106.1) (State.isArrayOf_alike hZ.alike Ar_106.2.1) Ar_106.2.2 (AF.inb S_106 hb_106) (G_106 _ hb_106.1 hb_106.2) (g := (mkF m 5 #[.val (.ref a), .val (.int p1)] [(.int p1), (.ref sp)])) rfl rfl (hb hby d5_5) _ k) ?_
  show Win p.tables e below _ (T_105.setTop (mkF m 6 #[.val (.ref a), .val (.int p1)] [(.int (g (p1).toInt))]))
  clear Ar_106 S_106 G_106 hb_106
  refine s_iconst (pc' := 7) (z := (1 : Int32)) X_105.here hx (hb hby d5_6) rfl rfl ?_
  refine s_isub (pc' := 8) X_105.here hx (hb hby d5_7) rfl ?_
  refine winI X_105 hx hlk e_105 Bd.returns (hb hby d5_8) (by decide) (by decide) ?_
  exact ⟨Nf, rfl, rfl⟩
theorem d8_0 : decode prog_53_method_9_code 0 = .ok (.aload_n 0, 1) := by decide +kernel
theorem d8_1 : decode prog_53_method_9_code 1 = .ok (.getfield 19, 3) := by decide +kernel
theorem d8_4 : decode prog_53_method_9_code 4 = .ok (.aload_n 0, 1) := by decide +kernel
theorem d8_5 : decode prog_53_method_9_code 5 = .ok (.getfield 13, 3) := by decide +kernel
theorem d8_8 : decode prog_53_method_9_code 8 = .ok (.iload_n 1, 1) := by decide +kernel
theorem d8_9 : decode prog_53_method_9_code 9 = .ok (.iaload, 1) := by decide +kernel
theorem d8_10 : decode prog_53_method_9_code 10 = .ok (.iload_n 2, 1) := by decide +kernel
theorem d8_11 : decode prog_53_method_9_code 11 = .ok (.iadd, 1) := by decide +kernel
theorem d8_12 : decode prog_53_method_9_code 12 = .ok (.iaload, 1) := by decide +kernel
theorem d8_13 : decode prog_53_method_9_code 13 = .ok (.ireturn, 1) := by decide +kernel
theorem ef_8 (m : MethodId) (a : Addr) : entryFrame m #[(.ref a), (.int (0 : Int32)), (.int (0 : Int32))] 3 = mkF m 0 #[.val (.ref a), .val (.int (0 : Int32)), .val (.int (0 : Int32))] [] := by first | (simp [entryFrame, mkF, argsToLocals, Value.category]; done) | rfl
def Q8 (Z : State) (a : Addr) (fi : Addr) (ed : Addr) (f2 : Int → Int32) (f4 : Int → Int32) (h0 : Heap) (n0 : Nat) (v : Option Value) (h : Heap) (L : List Loc) : Prop := Fr n0 L ∧ h = h0 ∧ (∃ z : Int32, v = some (.int z) ∧ (z = f4 (0 : Int)))
set_option maxRecDepth 65536 in
set_option maxHeartbeats 40000000 in
theorem rm8 (l : Launch) (Z : State) (a0 : Array Value) (hw : ∀ d ∈ tables_1, d.before a0 Z = true) (ws : List Jvm.Cond) (a : Addr) (fi : Addr) (ed : Addr) (f2 : Int → Int32) (f4 : Int → Int32) (h0 : Heap) (n0 : Nat) (Zs : n0 ≤ h0.size) (F_first_a : Fld Z h0 a "com/example/nearstable/nearstable/maximal/Players" "first" "[I" (.ref fi)) (F_edges_a : Fld Z h0 a "com/example/nearstable/nearstable/maximal/Players" "edges" "[I" (.ref ed)) (A_fi : AF Z h0 fi .int 16 f2) (A_ed : AF Z h0 ed .int 16 f4) (h2 : f2 (0 : Int) = 0) :
    MetFree l (⟨"com/example/nearstable/nearstable/maximal/Players", "edge", "(II)I"⟩ : MethodName) (head1 (Jvm.Cond.code (⟨"com/example/nearstable/nearstable/maximal/Players", "edge", "(II)I"⟩ : MethodName) prog_53_method_9_code 3 (some .int) :: ws) ({ frames := 0, cells := 0, slots := 0, locals := 0 } : Room)) (fun as' U => as' = #[(.ref a), (.int (0 : Int32)), (.int (0 : Int32))] ∧ Z.Warmed39 U.vm ∧ U.heap = h0) (fun _ _ _ _ _ => True) (fun _ U o U' => ∃ v L, o = .returned v ∧ Q8 Z a fi ed f2 f4 h0 n0 v U'.heap L ∧ FrameEnd U o U' L ({ frames := 0, cells := 0, slots := 0, locals := 0 } : Room).cells ({ frames := 0, cells := 0, slots := 0, locals := 0 } : Room).slots) := by
  refine MetFree.of_bodySF (plainFor_of_name pn_1) hisR ?_
  intro p e s m args below meth c s₁ Bd hml0 hP hK
  obtain ⟨rfl, hZ, hh⟩ := hP
  have hx := Bd.exec
  have hby := Bd.bytes
  have hml : c.maxLocals = 3 := hml0
  have hown : s.vm.findClass "com/example/nearstable/nearstable/maximal/Players" = some m.cls := findClass_of_methodNamed Bd.named
  have hnm := (name_of_methodNamed Bd.named Bd.method).1
  have hlk : meth.locks = false := Bd.notSynchronized
  have X0 : Stand p l e ({ frames := 0, cells := 0, slots := 0, locals := 0 } : Room) s m #[(.ref a), (.int (0 : Int32)), (.int (0 : Int32))] below meth c s₁ [] 0 0 := Stand.of_body Bd
  have e0 : s₁.heap = h0 := by rw [← hh, Bd.state]; rfl
  have Nf := Fr.nil n0
  refine (?_ : Win p.tables e below (PostQ s (Q8 Z a fi ed f2 f4 h0 n0) ({ frames := 0, cells := 0, slots := 0, locals := 0 } : Room).cells ({ frames := 0, cells := 0, slots := 0, locals := 0 } : Room).slots) (s₁.setTop (entryFrame m #[(.ref a), (.int (0 : Int32)), (.int (0 : Int32))] 3)))
  rw [ef_8]
  have lt_a : a < h0.size := F_first_a.lt
  have lt_fi : fi < h0.size := A_fi.lt
  have lt_ed : ed < h0.size := A_ed.lt
  show Win p.tables e below _ (s₁.setTop (mkF m 0 #[.val (.ref a), .val (.int (0 : Int32)), .val (.int (0 : Int32))] []))
  refine s_aloadN (pc' := 1) X0.here hx (hb hby d8_0) rfl rfl rfl ?_
  obtain ⟨T_107, X_107, e_107, st_107⟩ := getF X0 hx hZ hown (host := "") (Or.inl (hw _ (List.mem_of_getElem? (i := 17) rfl))) Via.refl e0 F_edges_a (g := (mkF m 1 #[.val (.ref a), .val (.int (0 : Int32)), .val (.int (0 : Int32))] [(.ref a)])) rfl rfl (hb hby d8_1)
  refine Win.go st_107 ?_
  clear st_107 X0 e0
  show Win p.tables e below _ (T_107.setTop (mkF m 4 #[.val (.ref a), .val (.int (0 : Int32)), .val (.int (0 : Int32))] [(.ref ed)]))
  refine s_aloadN (pc' := 5) X_107.here hx (hb hby d8_4) rfl rfl rfl ?_
  obtain ⟨T_108, X_108, e_108, st_108⟩ := getF X_107 hx hZ hown (host := "") (Or.inl (hw _ (List.mem_of_getElem? (i := 13) rfl))) Via.refl e_107 F_first_a (g := (mkF m 5 #[.val (.ref a), .val (.int (0 : Int32)), .val (.int (0 : Int32))] [(.ref a), (.ref ed)])) rfl rfl (hb hby d8_5)
  refine Win.go st_108 ?_
  clear st_108 X_107 e_107
  show Win p.tables e below _ (T_108.setTop (mkF m 8 #[.val (.ref a), .val (.int (0 : Int32)), .val (.int (0 : Int32))] [(.ref fi), (.ref ed)]))
  refine s_iloadN (pc' := 9) X_108.here hx (hb hby d8_8) rfl rfl ?_
  obtain ⟨cl_109, Ar_109, S_109, G_109⟩ := id A_fi
  have hb_109 : 0 ≤ ((0 : Int32)).toInt ∧ ((0 : Int32)).toInt < 16 := by decide
  refine Win.go (fun _ k => X_108.iaload hx (j := (0 : Int32)) (v := (.int (f2 (0 : Int)))) (by rw [e_108]; exact Ar_109.1) (State.isArrayOf_alike hZ.alike Ar_109.2.1) Ar_109.2.2 (AF.inb S_109 hb_109) (G_109 _ hb_109.1 hb_109.2) (g := (mkF m 9 #[.val (.ref a), .val (.int (0 : Int32)), .val (.int (0 : Int32))] [(.int (0 : Int32)), (.ref fi), (.ref ed)])) rfl rfl (hb hby d8_9) _ k) ?_
  show Win p.tables e below _ (T_108.setTop (mkF m 10 #[.val (.ref a), .val (.int (0 : Int32)), .val (.int (0 : Int32))] [(.int (f2 (0 : Int))), (.ref ed)]))
  clear Ar_109 S_109 G_109 hb_109
  refine s_iloadN (pc' := 11) X_108.here hx (hb hby d8_10) rfl rfl ?_
  refine s_iadd (pc' := 12) X_108.here hx (hb hby d8_11) rfl ?_
  obtain ⟨cl_110, Ar_110, S_110, G_110⟩ := id A_ed
  have hb_110 : 0 ≤ (((f2 (0 : Int)) + (0 : Int32))).toInt ∧ (((f2 (0 : Int)) + (0 : Int32))).toInt < 16 := by rw [h2]; decide
  refine Win.go (fun _ k => X_108.iaload hx (j := ((f2 (0 : Int)) + (0 : Int32))) (v := (.int (f4 (((f2 (0 : Int)) + (0 : Int32))).toInt))) (by rw [e_108]; exact Ar_110.1) (State.isArrayOf_alike hZ.alike Ar_110.2.1) Ar_110.2.2 (AF.inb S_110 hb_110) (G_110 _ hb_110.1 hb_110.2) (g := (mkF m 12 #[.val (.ref a), .val (.int (0 : Int32)), .val (.int (0 : Int32))] [(.int ((f2 (0 : Int)) + (0 : Int32))), (.ref ed)])) rfl rfl (hb hby d8_12) _ k) ?_
  show Win p.tables e below _ (T_108.setTop (mkF m 13 #[.val (.ref a), .val (.int (0 : Int32)), .val (.int (0 : Int32))] [(.int (f4 (((f2 (0 : Int)) + (0 : Int32))).toInt))]))
  clear Ar_110 S_110 G_110 hb_110
  refine winI X_108 hx hlk e_108 Bd.returns (hb hby d8_13) (by decide) (by decide) ?_
  exact ⟨Nf, rfl, _, rfl, by rw [h2]; rfl⟩
theorem d9_0 : decode prog_53_method_5_code 0 = .ok (.aload_n 0, 1) := by decide +kernel
theorem d9_1 : decode prog_53_method_5_code 1 = .ok (.getfield 22, 3) := by decide +kernel
theorem d9_4 : decode prog_53_method_5_code 4 = .ok (.iload_n 1, 1) := by decide +kernel
theorem d9_5 : decode prog_53_method_5_code 5 = .ok (.iaload, 1) := by decide +kernel
theorem d9_6 : decode prog_53_method_5_code 6 = .ok (.ireturn, 1) := by decide +kernel
theorem ef_9 (m : MethodId) (a : Addr) : entryFrame m #[(.ref a), (.int (0 : Int32))] 2 = mkF m 0 #[.val (.ref a), .val (.int (0 : Int32))] [] := by first | (simp [entryFrame, mkF, argsToLocals, Value.category]; done) | rfl
def Q9 (Z : State) (a : Addr) (pa : Addr) (f5 : Int → Int32) (h0 : Heap) (n0 : Nat) (v : Option Value) (h : Heap) (L : List Loc) : Prop := Fr n0 L ∧ h = h0 ∧ v = some (.int (f5 (0 : Int)))
set_option maxRecDepth 65536 in
set_option maxHeartbeats 40000000 in
theorem rm9 (l : Launch) (Z : State) (a0 : Array Value) (hw : ∀ d ∈ tables_1, d.before a0 Z = true) (ws : List Jvm.Cond) (a : Addr) (pa : Addr) (f5 : Int → Int32) (h0 : Heap) (n0 : Nat) (Zs : n0 ≤ h0.size) (F_partner_a : Fld Z h0 a "com/example/nearstable/nearstable/maximal/Players" "partner" "[I" (.ref pa)) (A_pa : AF Z h0 pa .int 16 f5) :
    MetFree l (⟨"com/example/nearstable/nearstable/maximal/Players", "partner", "(I)I"⟩ : MethodName) (head1 (Jvm.Cond.code (⟨"com/example/nearstable/nearstable/maximal/Players", "partner", "(I)I"⟩ : MethodName) prog_53_method_5_code 2 (some .int) :: ws) ({ frames := 0, cells := 0, slots := 0, locals := 0 } : Room)) (fun as' U => as' = #[(.ref a), (.int (0 : Int32))] ∧ Z.Warmed39 U.vm ∧ U.heap = h0) (fun _ _ _ _ _ => True) (fun _ U o U' => ∃ v L, o = .returned v ∧ Q9 Z a pa f5 h0 n0 v U'.heap L ∧ FrameEnd U o U' L ({ frames := 0, cells := 0, slots := 0, locals := 0 } : Room).cells ({ frames := 0, cells := 0, slots := 0, locals := 0 } : Room).slots) := by
  refine MetFree.of_bodySF (plainFor_of_name pn_1) hisR ?_
  intro p e s m args below meth c s₁ Bd hml0 hP hK
  obtain ⟨rfl, hZ, hh⟩ := hP
  have hx := Bd.exec
  have hby := Bd.bytes
  have hml : c.maxLocals = 2 := hml0
  have hown : s.vm.findClass "com/example/nearstable/nearstable/maximal/Players" = some m.cls := findClass_of_methodNamed Bd.named
  have hnm := (name_of_methodNamed Bd.named Bd.method).1
  have hlk : meth.locks = false := Bd.notSynchronized
  have X0 : Stand p l e ({ frames := 0, cells := 0, slots := 0, locals := 0 } : Room) s m #[(.ref a), (.int (0 : Int32))] below meth c s₁ [] 0 0 := Stand.of_body Bd
  have e0 : s₁.heap = h0 := by rw [← hh, Bd.state]; rfl
  have Nf := Fr.nil n0
  refine (?_ : Win p.tables e below (PostQ s (Q9 Z a pa f5 h0 n0) ({ frames := 0, cells := 0, slots := 0, locals := 0 } : Room).cells ({ frames := 0, cells := 0, slots := 0, locals := 0 } : Room).slots) (s₁.setTop (entryFrame m #[(.ref a), (.int (0 : Int32))] 2)))
  rw [ef_9]
  have lt_a : a < h0.size := F_partner_a.lt
  have lt_pa : pa < h0.size := A_pa.lt
  show Win p.tables e below _ (s₁.setTop (mkF m 0 #[.val (.ref a), .val (.int (0 : Int32))] []))
  refine s_aloadN (pc' := 1) X0.here hx (hb hby d9_0) rfl rfl rfl ?_
  obtain ⟨T_111, X_111, e_111, st_111⟩ := getF X0 hx hZ hown (host := "") (Or.inl (hw _ (List.mem_of_getElem? (i := 19) rfl))) Via.refl e0 F_partner_a (g := (mkF m 1 #[.val (.ref a), .val (.int (0 : Int32))] [(.ref a)])) rfl rfl (hb hby d9_1)
  refine Win.go st_111 ?_
  clear st_111 X0 e0
  show Win p.tables e below _ (T_111.setTop (mkF m 4 #[.val (.ref a), .val (.int (0 : Int32))] [(.ref pa)]))
  refine s_iloadN (pc' := 5) X_111.here hx (hb hby d9_4) rfl rfl ?_
  obtain ⟨cl_112, Ar_112, S_112, G_112⟩ := id A_pa
  have hb_112 : 0 ≤ ((0 : Int32)).toInt ∧ ((0 : Int32)).toInt < 16 := by decide
  refine Win.go (fun _ k => X_111.iaload hx (j := (0 : Int32)) (v := (.int (f5 (0 : Int)))) (by rw [e_111]; exact Ar_112.1) (State.isArrayOf_alike hZ.alike Ar_112.2.1) Ar_112.2.2 (AF.inb S_112 hb_112) (G_112 _ hb_112.1 hb_112.2) (g := (mkF m 5 #[.val (.ref a), .val (.int (0 : Int32))] [(.int (0 : Int32)), (.ref pa)])) rfl rfl (hb hby d9_5) _ k) ?_
  show Win p.tables e below _ (T_111.setTop (mkF m 6 #[.val (.ref a), .val (.int (0 : Int32))] [(.int (f5 (0 : Int)))]))
  clear Ar_112 S_112 G_112 hb_112
  refine winI X_111 hx hlk e_111 Bd.returns (hb hby d9_6) (by decide) (by decide) ?_
  exact ⟨Nf, rfl, rfl⟩
theorem pn_0 : plainName "com/example/nearstable/nearstable/maximal/PlayersClearPinLaw" = true := by first | (simp [plainName, overriddenIn]; done) | decide +kernel
theorem pd_1 : parseMethodDescriptor "(I)V" = some ⟨[.int], none⟩ := by decide +kernel
theorem pd_2 : parseMethodDescriptor "()V" = some ⟨[], none⟩ := by decide +kernel
theorem pd_3 : parseMethodDescriptor "()I" = some ⟨[], some .int⟩ := by decide +kernel
theorem pd_4 : parseMethodDescriptor "(II)V" = some ⟨[.int, .int], none⟩ := by decide +kernel
theorem pd_5 : parseMethodDescriptor "(II)I" = some ⟨[.int, .int], some .int⟩ := by decide +kernel
theorem ef_0 (m : MethodId) (p0 : Int32) (p1 : Int32) (p2 : Int32) (p3 : Int32) (p4 : Int32) (p5 : Int32) : entryFrame m #[(.int p0), (.int p1), (.int p2), (.int p3), (.int p4), (.int p5)] maxLocals = mkF m 0 #[.val (.int p0), .val (.int p1), .val (.int p2), .val (.int p3), .val (.int p4), .val (.int p5), .unset, .unset, .unset, .unset, .unset, .unset] [] := by first | (simp [entryFrame, mkF, argsToLocals, Value.category, maxLocals]; done) | rfl
def Q0 (Z : State) (p0 : Int32) (p1 : Int32) (p2 : Int32) (p3 : Int32) (p4 : Int32) (p5 : Int32) (h0 : Heap) (n0 : Nat) (v : Option Value) (h : Heap) (L : List Loc) : Prop := Fr n0 L ∧ v = some (.int 1)
set_option maxRecDepth 65536 in
set_option maxHeartbeats 40000000 in
theorem rm0 (l : Launch) (Z : State) (a0 : Array Value) (hw : ∀ d ∈ tables_1, d.before a0 Z = true) (ws : List Jvm.Cond) (p0 : Int32) (p1 : Int32) (p2 : Int32) (p3 : Int32) (p4 : Int32) (p5 : Int32) (h0 : Heap) (n0 : Nat) (Zs : n0 ≤ h0.size) :
    MetFree l x (head1 (Jvm.Cond.code x code maxLocals ret :: ws) room_1) (fun as' U => as' = #[(.int p0), (.int p1), (.int p2), (.int p3), (.int p4), (.int p5)] ∧ Z.Warmed39 U.vm ∧ U.heap = h0) (fun _ _ _ _ _ => True) (fun _ U o U' => ∃ v L, o = .returned v ∧ Q0 Z p0 p1 p2 p3 p4 p5 h0 n0 v U'.heap L ∧ FrameEnd U o U' L room_1.cells room_1.slots) := by
  refine MetFree.of_bodySF (plainFor_of_name pn_0) hisR ?_
  intro p e s m args below meth c s₁ Bd hml0 hP hK
  obtain ⟨rfl, hZ, hh⟩ := hP
  have hx := Bd.exec
  have hby := Bd.bytes
  have hml : c.maxLocals = 12 := hml0
  have hown : s.vm.findClass "com/example/nearstable/nearstable/maximal/PlayersClearPinLaw" = some m.cls := findClass_of_methodNamed Bd.named
  have hnm := (name_of_methodNamed Bd.named Bd.method).1
  have hlk : meth.locks = false := Bd.notSynchronized
  have X0 : Stand p l e room_1 s m #[(.int p0), (.int p1), (.int p2), (.int p3), (.int p4), (.int p5)] below meth c s₁ [] 0 0 := Stand.of_body Bd
  have e0 : s₁.heap = h0 := by rw [← hh, Bd.state]; rfl
  have Nf := Fr.nil n0
  refine (?_ : Win p.tables e below (PostQ s (Q0 Z p0 p1 p2 p3 p4 p5 h0 n0) room_1.cells room_1.slots) (s₁.setTop (entryFrame m #[(.int p0), (.int p1), (.int p2), (.int p3), (.int p4), (.int p5)] maxLocals)))
  rw [ef_0]
  show Win p.tables e below _ (s₁.setTop (mkF m 0 #[.val (.int p0), .val (.int p1), .val (.int p2), .val (.int p3), .val (.int p4), .val (.int p5), .unset, .unset, .unset, .unset, .unset, .unset] []))
  refine s_iloadN (pc' := 1) X0.here hx (hb hby at_0) rfl rfl ?_
  refine s_bipush (pc' := 3) (z := (7 : Int32)) X0.here hx (hb hby at_1) rfl rfl ?_
  refine s_iand (pc' := 4) X0.here hx (hb hby at_3) rfl ?_
  refine s_istore (pc' := 6) (l' := #[.val (.int p0), .val (.int p1), .val (.int p2), .val (.int p3), .val (.int p4), .val (.int p5), .val (.int (p0 &&& (7 : Int32))), .unset, .unset, .unset, .unset, .unset]) X0.here hx (hb hby at_4) rfl rfl ?_
  generalize hxx : (p0 &&& (7 : Int32)) = xx
  show Win p.tables e below _ (s₁.setTop (mkF m 6 #[.val (.int p0), .val (.int p1), .val (.int p2), .val (.int p3), .val (.int p4), .val (.int p5), .val (.int xx), .unset, .unset, .unset, .unset, .unset] []))
  have bxx : 0 ≤ xx.toInt ∧ xx.toInt ≤ 7 := hxx ▸ c_and p0 7 (by decide)
  refine s_iload (pc' := 8) X0.here hx (hb hby at_6) rfl rfl ?_
  refine s_iconst (pc' := 9) (z := (1 : Int32)) X0.here hx (hb hby at_8) rfl rfl ?_
  refine s_iadd (pc' := 10) X0.here hx (hb hby at_9) rfl ?_
  refine s_iloadN (pc' := 11) X0.here hx (hb hby at_10) rfl rfl ?_
  refine s_iconst (pc' := 12) (z := (3 : Int32)) X0.here hx (hb hby at_11) rfl rfl ?_
  refine Win.go (fun _ k => XT.iushr X0.here hx rfl (hb hby at_12) rfl k) ?_
  show Win p.tables e below _ (s₁.setTop (mkF m 13 #[.val (.int p0), .val (.int p1), .val (.int p2), .val (.int p3), .val (.int p4), .val (.int p5), .val (.int xx), .unset, .unset, .unset, .unset, .unset] [(.int (XT.ushr p0 (3 : Int32))), (.int (xx + (1 : Int32)))]))
  refine s_iconst (pc' := 14) (z := (3 : Int32)) X0.here hx (hb hby at_13) rfl rfl ?_
  refine s_iand (pc' := 15) X0.here hx (hb hby at_14) rfl ?_
  refine s_iadd (pc' := 16) X0.here hx (hb hby at_15) rfl ?_
  refine s_bipush (pc' := 18) (z := (7 : Int32)) X0.here hx (hb hby at_16) rfl rfl ?_
  refine s_iand (pc' := 19) X0.here hx (hb hby at_18) rfl ?_
  refine s_istore (pc' := 21) (l' := #[.val (.int p0), .val (.int p1), .val (.int p2), .val (.int p3), .val (.int p4), .val (.int p5), .val (.int xx), .val (.int (((xx + (1 : Int32)) + ((XT.ushr p0 (3 : Int32)) &&& (3 : Int32))) &&& (7 : Int32))), .unset, .unset, .unset, .unset]) X0.here hx (hb hby at_19) rfl rfl ?_
  generalize hyy : (((xx + (1 : Int32)) + ((XT.ushr p0 (3 : Int32)) &&& (3 : Int32))) &&& (7 : Int32)) = yy
  show Win p.tables e below _ (s₁.setTop (mkF m 21 #[.val (.int p0), .val (.int p1), .val (.int p2), .val (.int p3), .val (.int p4), .val (.int p5), .val (.int xx), .val (.int yy), .unset, .unset, .unset, .unset] []))
  have byy : 0 ≤ yy.toInt ∧ yy.toInt ≤ 7 ∧ ¬ yy.toInt = xx.toInt := by
    have h1 := c_and (XT.ushr p0 (3 : Int32)) 3 (by decide)
    have h2 := c_iadd xx 1
    have h3 := c_iadd (xx + 1) ((XT.ushr p0 (3 : Int32)) &&& (3 : Int32))
    have h4 : ((xx + 1 + ((XT.ushr p0 (3 : Int32)) &&& (3 : Int32))) &&& (7 : Int32)).toInt = (xx + 1 + ((XT.ushr p0 (3 : Int32)) &&& (3 : Int32))).toInt % 8 := c_mask _ 7 3 (by decide) (by decide)
    rw [hyy] at h4
    have h5 := rng32 (xx + 1)
    have h6 := rng32 (xx + 1 + ((XT.ushr p0 (3 : Int32)) &&& (3 : Int32)))
    have h7 : (1 : Int32).toInt = 1 := rfl
    have h8 : (3 : Int32).toInt = 3 := rfl
    omega
  refine s_iloadN (pc' := 22) X0.here hx (hb hby at_21) rfl rfl ?_
  refine Win.go (fun _ k => X0.ldcInt hx hown (mvT hZ (hw _ (List.mem_of_getElem? (i := 0) rfl))) (g := (mkF m 22 #[.val (.int p0), .val (.int p1), .val (.int p2), .val (.int p3), .val (.int p4), .val (.int p5), .val (.int xx), .val (.int yy), .unset, .unset, .unset, .unset] [(.int p1)])) rfl (hb hby at_22) _ k) ?_
  show Win p.tables e below _ (s₁.setTop (mkF m 24 #[.val (.int p0), .val (.int p1), .val (.int p2), .val (.int p3), .val (.int p4), .val (.int p5), .val (.int xx), .val (.int yy), .unset, .unset, .unset, .unset] [(.int (2147483647 : Int32)), (.int p1)]))
  refine s_iand (pc' := 25) X0.here hx (hb hby at_24) rfl ?_
  refine s_iconst (pc' := 26) (z := (3 : Int32)) X0.here hx (hb hby at_25) rfl rfl ?_
  refine Win.go (fun _ k => iremM X0 hx rfl (hb hby at_26) rfl (by decide) k) ?_
  show Win p.tables e below _ (s₁.setTop (mkF m 27 #[.val (.int p0), .val (.int p1), .val (.int p2), .val (.int p3), .val (.int p4), .val (.int p5), .val (.int xx), .val (.int yy), .unset, .unset, .unset, .unset] [(.int ((p1 &&& (2147483647 : Int32)) % (3 : Int32)))]))
  refine s_istore (pc' := 29) (l' := #[.val (.int p0), .val (.int p1), .val (.int p2), .val (.int p3), .val (.int p4), .val (.int p5), .val (.int xx), .val (.int yy), .val (.int ((p1 &&& (2147483647 : Int32)) % (3 : Int32))), .unset, .unset, .unset]) X0.here hx (hb hby at_27) rfl rfl ?_
  generalize hnn : ((p1 &&& (2147483647 : Int32)) % (3 : Int32)) = nn
  show Win p.tables e below _ (s₁.setTop (mkF m 29 #[.val (.int p0), .val (.int p1), .val (.int p2), .val (.int p3), .val (.int p4), .val (.int p5), .val (.int xx), .val (.int yy), .val (.int nn), .unset, .unset, .unset] []))
  have bnn : 0 ≤ nn.toInt ∧ nn.toInt ≤ 2 := by
    have h1 := c_and p1 2147483647 (by decide)
    have h2 := (c_irem (p1 &&& (2147483647 : Int32)) 3 3 rfl).1 h1.1
    rw [hnn] at h2
    omega
  clear hnn
  rcases (own_three bnn.1 bnn.2 : nn = (0 : Int32) ∨ nn = (1 : Int32) ∨ nn = (2 : Int32)) with rfl | rfl | rfl
  · skip
    show Win p.tables e below _ (s₁.setTop (mkF m 29 #[.val (.int p0), .val (.int p1), .val (.int p2), .val (.int p3), .val (.int p4), .val (.int p5), .val (.int xx), .val (.int yy), .val (.int (0 : Int32)), .unset, .unset, .unset] []))
    refine s_iload (pc' := 31) X0.here hx (hb hby at_29) rfl rfl ?_
    refine s_bipush (pc' := 33) (z := (7 : Int32)) X0.here hx (hb hby at_31) rfl rfl ?_
    refine s_iand (pc' := 34) X0.here hx (hb hby at_33) rfl ?_
    refine s_istore (pc' := 36) (l' := #[.val (.int p0), .val (.int p1), .val (.int p2), .val (.int p3), .val (.int p4), .val (.int p5), .val (.int xx), .val (.int yy), .val (.int (0 : Int32)), .val (.int (p5 &&& (7 : Int32))), .unset, .unset]) X0.here hx (hb hby at_34) rfl rfl ?_
    generalize hzz : (p5 &&& (7 : Int32)) = zz
    show Win p.tables e below _ (s₁.setTop (mkF m 36 #[.val (.int p0), .val (.int p1), .val (.int p2), .val (.int p3), .val (.int p4), .val (.int p5), .val (.int xx), .val (.int yy), .val (.int (0 : Int32)), .val (.int zz), .unset, .unset] []))
    have bzz : 0 ≤ zz.toInt ∧ zz.toInt ≤ 7 := hzz ▸ c_and p5 7 (by decide)
    obtain ⟨T_113, h_113, X_113, e_113, Ex_113, A_113, D_113, -, st_113⟩ := newO X0 hx hZ hown (hw _ (List.mem_of_getElem? (i := 1) rfl)) (hw _ (List.mem_of_getElem? (i := 2) rfl)) (hw _ (List.mem_of_getElem? (i := 3) rfl)) e0 (g := (mkF m 36 #[.val (.int p0), .val (.int p1), .val (.int p2), .val (.int p3), .val (.int p4), .val (.int p5), .val (.int xx), .val (.int yy), .val (.int (0 : Int32)), .val (.int zz), .unset, .unset] [])) rfl (hb hby at_36) (by decide) (by decide)
    obtain ⟨b_113, g_113⟩ : ∃ z, z = h0.size := ⟨_, rfl⟩
    have g_b_113 : n0 ≤ b_113 := Nat.le_trans Zs (Nat.le_of_eq g_113.symm)
    rw [← g_113] at A_113 D_113 st_113
    replace Zs := Nat.le_trans Zs Ex_113.1
    have E_b_113 := A_113
    have lt_b_113 := E_b_113.lt
    have F_player_b_113 : Fld Z h_113 b_113 "com/example/nearstable/nearstable/maximal/Players" "player" "[I" .null := D_113 (Or.inl (hw _ (List.mem_of_getElem? (i := 12) rfl))) (ty := (.array .int)) (by decide)
    have F_first_b_113 : Fld Z h_113 b_113 "com/example/nearstable/nearstable/maximal/Players" "first" "[I" .null := D_113 (Or.inl (hw _ (List.mem_of_getElem? (i := 14) rfl))) (ty := (.array .int)) (by decide)
    have F_degree_b_113 : Fld Z h_113 b_113 "com/example/nearstable/nearstable/maximal/Players" "degree" "[I" .null := D_113 (Or.inl (hw _ (List.mem_of_getElem? (i := 16) rfl))) (ty := (.array .int)) (by decide)
    have F_edges_b_113 : Fld Z h_113 b_113 "com/example/nearstable/nearstable/maximal/Players" "edges" "[I" .null := D_113 (Or.inl (hw _ (List.mem_of_getElem? (i := 18) rfl))) (ty := (.array .int)) (by decide)
    have F_partner_b_113 : Fld Z h_113 b_113 "com/example/nearstable/nearstable/maximal/Players" "partner" "[I" .null := D_113 (Or.inl (hw _ (List.mem_of_getElem? (i := 20) rfl))) (ty := (.array .int)) (by decide)
    have F_edgeLeft_b_113 : Fld Z h_113 b_113 "com/example/nearstable/nearstable/maximal/Players" "edgeLeft" "[Z" .null := D_113 (Or.inl (hw _ (List.mem_of_getElem? (i := 23) rfl))) (ty := (.array .boolean)) (by decide)
    have F_slotPlus1_b_113 : Fld Z h_113 b_113 "com/example/nearstable/nearstable/maximal/Players" "slotPlus1" "[I" .null := D_113 (Or.inr (hw _ (List.mem_of_getElem? (i := 25) rfl))) (ty := (.array .int)) (by decide)
    have F_slots_b_113 : Fld Z h_113 b_113 "com/example/nearstable/nearstable/maximal/Players" "slots" "I" (.int (0 : Int32)) := D_113 (Or.inl (hw _ (List.mem_of_getElem? (i := 32) rfl))) (ty := .int) (by decide)
    have F_edgeCount_b_113 : Fld Z h_113 b_113 "com/example/nearstable/nearstable/maximal/Players" "edgeCount" "I" (.int (0 : Int32)) := D_113 (Or.inl (hw _ (List.mem_of_getElem? (i := 34) rfl))) (ty := .int) (by decide)
    refine Win.go st_113 ?_
    clear st_113 Ex_113 A_113 D_113 g_113 X0 e0
    show Win p.tables e below _ (T_113.setTop (mkF m 39 #[.val (.int p0), .val (.int p1), .val (.int p2), .val (.int p3), .val (.int p4), .val (.int p5), .val (.int xx), .val (.int yy), .val (.int (0 : Int32)), .val (.int zz), .unset, .unset] [(.ref b_113)]))
    refine s_dup (pc' := 40) X_113.here hx (hb hby at_39) rfl rfl ?_
    refine s_bipush (pc' := 42) (z := (7 : Int32)) X_113.here hx (hb hby at_40) rfl rfl ?_
    obtain ⟨_, _, ⟨T_114, L_114, k_114, n_114⟩, -, X_114, ⟨Lc_114, hQ_114, l_114, y_114, z_114⟩, st_114⟩ := X_113.specialBack hx (y := (⟨"com/example/nearstable/nearstable/maximal/Players", "<init>", "(I)V"⟩ : MethodName)) rfl hown (mvT hZ (hw _ (List.mem_of_getElem? (i := 4) rfl))) (mvT hZ (hw _ (List.mem_of_getElem? (i := 5) rfl))) (mvT hZ (hw _ (List.mem_of_getElem? (i := 6) rfl))) (by decide) (backOf (W := 1) (rm1 l Z a0 hw [] b_113 h_113 n0 Zs E_b_113 F_player_b_113 F_first_b_113 F_degree_b_113 F_edges_b_113 F_partner_b_113 F_edgeLeft_b_113 F_slotPlus1_b_113 F_slots_b_113 F_edgeCount_b_113 g_b_113) hZ (hw _ (List.mem_of_getElem? (i := 6) rfl)) (hw _ (List.mem_of_getElem? (i := 3) rfl)) (by decide) (by decide)) (g := (mkF m 42 #[.val (.int p0), .val (.int p1), .val (.int p2), .val (.int p3), .val (.int p4), .val (.int p5), .val (.int xx), .val (.int yy), .val (.int (0 : Int32)), .val (.int zz), .unset, .unset] [(.int (7 : Int32)), (.ref b_113), (.ref b_113)])) rfl (by rw [hml]; rfl) (Steps.refl _) (a := b_113) (argsL := [(.int (7 : Int32))]) (rest := [(.ref b_113)]) (lenOf pd_1 rfl) rfl (by show 2 * 0 + _ ≤ _; exact Nat.le_of_eq rfl) (hb hby at_42) (fun _ _ => ⟨rfl, e_113, (by decide : 1 + 7 ≤ _), (by decide : 9 + 104 ≤ _)⟩)
    dsimp only [Pt.U, Pt.locs, Pt.cells, Pt.slots] at X_114 l_114 y_114 z_114 st_114 hQ_114
    subst l_114 y_114 z_114
    obtain ⟨h_114, e_114⟩ : ∃ z, T_114.heap = z := ⟨_, rfl⟩
    rw [e_114] at hQ_114
    obtain ⟨Nq_114, K_114, ⟨pl_114, fi_114, de_114, ed_114, pa_114, el_114, sp_114, g_pl_114, so_pl_114, g_fi_114, so_fi_114, g_de_114, so_de_114, g_ed_114, so_ed_114, g_pa_114, so_pa_114, g_el_114, so_el_114, g_sp_114, so_sp_114, ne_pl_114_fi_114, ne_pl_114_de_114, ne_pl_114_ed_114, ne_pl_114_pa_114, ne_pl_114_el_114, ne_pl_114_sp_114, ne_fi_114_de_114, ne_fi_114_ed_114, ne_fi_114_pa_114, ne_fi_114_el_114, ne_fi_114_sp_114, ne_de_114_ed_114, ne_de_114_pa_114, ne_de_114_el_114, ne_de_114_sp_114, ne_ed_114_pa_114, ne_ed_114_el_114, ne_ed_114_sp_114, ne_pa_114_el_114, ne_pa_114_sp_114, ne_el_114_sp_114, n_114_F_player_b_113, n_114_F_first_b_113, n_114_F_degree_b_113, n_114_F_edges_b_113, n_114_F_partner_b_113, n_114_F_edgeLeft_b_113, n_114_F_slotPlus1_b_113, n_114_F_slots_b_113, n_114_F_edgeCount_b_113, n_114_A_pl_114, n_114_A_fi_114, n_114_A_de_114, n_114_A_ed_114, n_114_A_pa_114, n_114_A_el_114, n_114_A_sp_114⟩, rfl⟩ := hQ_114
    replace Nf := Fr.app Nf Nq_114
    have ne_b_113_pl_114 : b_113 ≠ pl_114 := Nat.ne_of_lt (Nat.lt_of_lt_of_le lt_b_113 so_pl_114)
    have ne_b_113_fi_114 : b_113 ≠ fi_114 := Nat.ne_of_lt (Nat.lt_of_lt_of_le lt_b_113 so_fi_114)
    have ne_b_113_de_114 : b_113 ≠ de_114 := Nat.ne_of_lt (Nat.lt_of_lt_of_le lt_b_113 so_de_114)
    have ne_b_113_ed_114 : b_113 ≠ ed_114 := Nat.ne_of_lt (Nat.lt_of_lt_of_le lt_b_113 so_ed_114)
    have ne_b_113_pa_114 : b_113 ≠ pa_114 := Nat.ne_of_lt (Nat.lt_of_lt_of_le lt_b_113 so_pa_114)
    have ne_b_113_el_114 : b_113 ≠ el_114 := Nat.ne_of_lt (Nat.lt_of_lt_of_le lt_b_113 so_el_114)
    have ne_b_113_sp_114 : b_113 ≠ sp_114 := Nat.ne_of_lt (Nat.lt_of_lt_of_le lt_b_113 so_sp_114)
    replace E_b_113 := E_b_113.keep K_114
    clear F_player_b_113
    clear F_first_b_113
    clear F_degree_b_113
    clear F_edges_b_113
    clear F_partner_b_113
    clear F_edgeLeft_b_113
    clear F_slotPlus1_b_113
    clear F_slots_b_113
    clear F_edgeCount_b_113
    replace lt_b_113 := Nat.lt_of_lt_of_le lt_b_113 K_114.1
    replace Zs := Nat.le_trans Zs K_114.1
    have F_player_b_113 := n_114_F_player_b_113
    have F_first_b_113 := n_114_F_first_b_113
    have F_degree_b_113 := n_114_F_degree_b_113
    have F_edges_b_113 := n_114_F_edges_b_113
    have F_partner_b_113 := n_114_F_partner_b_113
    have F_edgeLeft_b_113 := n_114_F_edgeLeft_b_113
    have F_slotPlus1_b_113 := n_114_F_slotPlus1_b_113
    have F_slots_b_113 := n_114_F_slots_b_113
    have F_edgeCount_b_113 := n_114_F_edgeCount_b_113
    have A_pl_114 := n_114_A_pl_114
    have A_fi_114 := n_114_A_fi_114
    have A_de_114 := n_114_A_de_114
    have A_ed_114 := n_114_A_ed_114
    have A_pa_114 := n_114_A_pa_114
    have A_el_114 := n_114_A_el_114
    have A_sp_114 := n_114_A_sp_114
    have lt_pl_114 := A_pl_114.lt
    have lt_fi_114 := A_fi_114.lt
    have lt_de_114 := A_de_114.lt
    have lt_ed_114 := A_ed_114.lt
    have lt_pa_114 := A_pa_114.lt
    have lt_el_114 := A_el_114.lt
    have lt_sp_114 := A_sp_114.lt
    refine Win.come st_114 ?_
    clear st_114 Nq_114 X_113 e_113 K_114
    show Win p.tables e below _ (T_114.setTop (mkF m 45 #[.val (.int p0), .val (.int p1), .val (.int p2), .val (.int p3), .val (.int p4), .val (.int p5), .val (.int xx), .val (.int yy), .val (.int (0 : Int32)), .val (.int zz), .unset, .unset] [(.ref b_113)]))
    refine s_astore (pc' := 47) (l' := #[.val (.int p0), .val (.int p1), .val (.int p2), .val (.int p3), .val (.int p4), .val (.int p5), .val (.int xx), .val (.int yy), .val (.int (0 : Int32)), .val (.int zz), .val (.ref b_113), .unset]) X_114.here hx (hb hby at_45) rfl rfl rfl ?_
    refine s_iload (pc' := 49) X_114.here hx (hb hby at_47) rfl rfl ?_
    refine s_iconst (pc' := 50) (z := (1 : Int32)) X_114.here hx (hb hby at_49) rfl rfl ?_
    refine s_icmpYes (pc' := 70) X_114.here hx (hb hby at_50) (tltI (x := (0 : Int32)) (y := (1 : Int32)) (by decide)).1 (by decide) (by decide) ?_
    refine s_iload (pc' := 72) X_114.here hx (hb hby at_70) rfl rfl ?_
    refine s_iconst (pc' := 73) (z := (2 : Int32)) X_114.here hx (hb hby at_72) rfl rfl ?_
    refine s_icmpYes (pc' := 84) X_114.here hx (hb hby at_73) (tltI (x := (0 : Int32)) (y := (2 : Int32)) (by decide)).1 (by decide) (by decide) ?_
    refine s_aload (pc' := 86) X_114.here hx (hb hby at_84) rfl rfl rfl ?_
    obtain ⟨cq_115, kq_115, q_115a, q_115b, q_115c⟩ := isOf hZ e_114 E_b_113
    obtain ⟨_, _, ⟨T_115, L_115, k_115, n_115⟩, -, X_115, ⟨Lc_115, hQ_115, l_115, y_115, z_115⟩, st_115⟩ := X_114.virtualBack hx (y := (⟨"com/example/nearstable/nearstable/maximal/Players", "clear", "()V"⟩ : MethodName)) (z := (⟨"com/example/nearstable/nearstable/maximal/Players", "clear", "()V"⟩ : MethodName)) hown (mvT hZ (hw _ (List.mem_of_getElem? (i := 26) rfl))) (mvT hZ (hw _ (List.mem_of_getElem? (i := 27) rfl))) (notFace_of_selects (args := #[]) (mvT hZ (hw _ (List.mem_of_getElem? (i := 29) rfl)))) (mvT hZ (hw _ (List.mem_of_getElem? (i := 29) rfl))) (mvT hZ (hw _ (List.mem_of_getElem? (i := 28) rfl))) (by decide) (backOf (W := 0) (rm3_0 l Z a0 hw [] b_113 pl_114 fi_114 de_114 ed_114 pa_114 el_114 sp_114 (fun _ => 0) (fun _ => 0) (fun _ => 0) (fun _ => 0) (fun _ => 0) (fun _ => 0) (fun _ => 0) h_114 n0 Zs E_b_113 F_player_b_113 F_first_b_113 F_degree_b_113 F_edges_b_113 F_partner_b_113 F_edgeLeft_b_113 F_slotPlus1_b_113 F_slots_b_113 F_edgeCount_b_113 A_pl_114 A_fi_114 A_de_114 A_ed_114 A_pa_114 A_el_114 A_sp_114 g_b_113 g_pl_114 g_fi_114 g_de_114 g_ed_114 g_pa_114 g_el_114 g_sp_114 ne_b_113_pl_114 ne_b_113_fi_114 ne_b_113_de_114 ne_b_113_ed_114 ne_b_113_pa_114 ne_b_113_el_114 ne_b_113_sp_114 ne_pl_114_fi_114 ne_pl_114_de_114 ne_pl_114_ed_114 ne_pl_114_pa_114 ne_pl_114_el_114 ne_pl_114_sp_114 ne_fi_114_de_114 ne_fi_114_ed_114 ne_fi_114_pa_114 ne_fi_114_el_114 ne_fi_114_sp_114 ne_de_114_ed_114 ne_de_114_pa_114 ne_de_114_el_114 ne_de_114_sp_114 ne_ed_114_pa_114 ne_ed_114_el_114 ne_ed_114_sp_114 ne_pa_114_el_114 ne_pa_114_sp_114 ne_el_114_sp_114 (by trivial)) hZ (hw _ (List.mem_of_getElem? (i := 30) rfl)) (hw _ (List.mem_of_getElem? (i := 3) rfl)) (by decide) (by decide)) q_115a q_115c (g := (mkF m 86 #[.val (.int p0), .val (.int p1), .val (.int p2), .val (.int p3), .val (.int p4), .val (.int p5), .val (.int xx), .val (.int yy), .val (.int (0 : Int32)), .val (.int zz), .val (.ref b_113), .unset] [(.ref b_113)])) rfl (by rw [hml]; rfl) (Steps.refl _) (argsL := []) (rest := []) (lenOf pd_2 rfl) rfl (by show 2 * 0 + _ ≤ _; exact Nat.le_of_eq rfl) (hb hby at_86) (fun _ _ => ⟨rfl, e_114, (by decide : 8 + 0 ≤ _), (by decide : 113 + 0 ≤ _)⟩)
    dsimp only [Pt.U, Pt.locs, Pt.cells, Pt.slots] at X_115 l_115 y_115 z_115 st_115 hQ_115
    subst l_115 y_115 z_115
    obtain ⟨h_115, e_115⟩ : ∃ z, T_115.heap = z := ⟨_, rfl⟩
    rw [e_115] at hQ_115
    obtain ⟨Nq_115, K_115, n_115_F_player_b_113, n_115_F_first_b_113, n_115_F_degree_b_113, n_115_F_edges_b_113, n_115_F_partner_b_113, n_115_F_edgeLeft_b_113, n_115_F_slotPlus1_b_113, n_115_F_slots_b_113, n_115_F_edgeCount_b_113, n_115_A_sp_114, rfl⟩ := hQ_115
    replace Nf := Fr.app Nf Nq_115
    replace E_b_113 := E_b_113.keep K_115
    clear F_player_b_113
    clear F_first_b_113
    clear F_degree_b_113
    clear F_edges_b_113
    clear F_partner_b_113
    clear F_edgeLeft_b_113
    clear F_slotPlus1_b_113
    clear F_slots_b_113
    clear F_edgeCount_b_113
    replace A_pl_114 := A_pl_114.keep K_115 (ninS (Ne.symm ne_b_113_pl_114) (ninS ne_pl_114_sp_114 nin0))
    replace A_fi_114 := A_fi_114.keep K_115 (ninS (Ne.symm ne_b_113_fi_114) (ninS ne_fi_114_sp_114 nin0))
    replace A_de_114 := A_de_114.keep K_115 (ninS (Ne.symm ne_b_113_de_114) (ninS ne_de_114_sp_114 nin0))
    replace A_ed_114 := A_ed_114.keep K_115 (ninS (Ne.symm ne_b_113_ed_114) (ninS ne_ed_114_sp_114 nin0))
    replace A_pa_114 := A_pa_114.keep K_115 (ninS (Ne.symm ne_b_113_pa_114) (ninS ne_pa_114_sp_114 nin0))
    replace A_el_114 := A_el_114.keep K_115 (ninS (Ne.symm ne_b_113_el_114) (ninS ne_el_114_sp_114 nin0))
    clear A_sp_114
    replace lt_b_113 := Nat.lt_of_lt_of_le lt_b_113 K_115.1
    replace lt_pl_114 := Nat.lt_of_lt_of_le lt_pl_114 K_115.1
    replace lt_fi_114 := Nat.lt_of_lt_of_le lt_fi_114 K_115.1
    replace lt_de_114 := Nat.lt_of_lt_of_le lt_de_114 K_115.1
    replace lt_ed_114 := Nat.lt_of_lt_of_le lt_ed_114 K_115.1
    replace lt_pa_114 := Nat.lt_of_lt_of_le lt_pa_114 K_115.1
    replace lt_el_114 := Nat.lt_of_lt_of_le lt_el_114 K_115.1
    replace lt_sp_114 := Nat.lt_of_lt_of_le lt_sp_114 K_115.1
    replace Zs := Nat.le_trans Zs K_115.1
    have F_player_b_113 := n_115_F_player_b_113
    have F_first_b_113 := n_115_F_first_b_113
    have F_degree_b_113 := n_115_F_degree_b_113
    have F_edges_b_113 := n_115_F_edges_b_113
    have F_partner_b_113 := n_115_F_partner_b_113
    have F_edgeLeft_b_113 := n_115_F_edgeLeft_b_113
    have F_slotPlus1_b_113 := n_115_F_slotPlus1_b_113
    have F_slots_b_113 := n_115_F_slots_b_113
    have F_edgeCount_b_113 := n_115_F_edgeCount_b_113
    have A_sp_114 := n_115_A_sp_114
    refine Win.come st_115 ?_
    clear st_115 Nq_115 X_114 e_114 K_115
    show Win p.tables e below _ (T_115.setTop (mkF m 89 #[.val (.int p0), .val (.int p1), .val (.int p2), .val (.int p3), .val (.int p4), .val (.int p5), .val (.int xx), .val (.int yy), .val (.int (0 : Int32)), .val (.int zz), .val (.ref b_113), .unset] []))
    refine s_aload (pc' := 91) X_115.here hx (hb hby at_89) rfl rfl rfl ?_
    obtain ⟨cq_116, kq_116, q_116a, q_116b, q_116c⟩ := isOf hZ e_115 E_b_113
    obtain ⟨_, _, ⟨T_116, L_116, k_116, n_116⟩, -, X_116, ⟨Lc_116, hQ_116, l_116, y_116, z_116⟩, st_116⟩ := X_115.virtualBack hx (y := (⟨"com/example/nearstable/nearstable/maximal/Players", "slots", "()I"⟩ : MethodName)) (z := (⟨"com/example/nearstable/nearstable/maximal/Players", "slots", "()I"⟩ : MethodName)) hown (mvT hZ (hw _ (List.mem_of_getElem? (i := 35) rfl))) (mvT hZ (hw _ (List.mem_of_getElem? (i := 36) rfl))) (notFace_of_selects (args := #[]) (mvT hZ (hw _ (List.mem_of_getElem? (i := 38) rfl)))) (mvT hZ (hw _ (List.mem_of_getElem? (i := 38) rfl))) (mvT hZ (hw _ (List.mem_of_getElem? (i := 37) rfl))) (by decide) (backOf (W := 0) (rm4 l Z a0 hw [] b_113 (0 : Int32) h_115 n0 Zs F_slots_b_113) hZ (hw _ (List.mem_of_getElem? (i := 39) rfl)) (hw _ (List.mem_of_getElem? (i := 3) rfl)) (by decide) (by decide)) q_116a q_116c (g := (mkF m 91 #[.val (.int p0), .val (.int p1), .val (.int p2), .val (.int p3), .val (.int p4), .val (.int p5), .val (.int xx), .val (.int yy), .val (.int (0 : Int32)), .val (.int zz), .val (.ref b_113), .unset] [(.ref b_113)])) rfl (by rw [hml]; rfl) (Steps.refl _) (argsL := []) (rest := []) (lenOf pd_3 rfl) rfl (by show 2 * 0 + _ ≤ _; exact Nat.le_of_eq rfl) (hb hby at_91) (fun _ _ => ⟨rfl, e_115, (by decide : 8 + 0 ≤ _), (by decide : 113 + 0 ≤ _)⟩)
    dsimp only [Pt.U, Pt.locs, Pt.cells, Pt.slots] at X_116 l_116 y_116 z_116 st_116 hQ_116
    subst l_116 y_116 z_116
    obtain ⟨Nq_116, e_116, rfl⟩ := hQ_116
    replace Nf := Fr.app Nf Nq_116
    refine Win.come st_116 ?_
    clear st_116 Nq_116 X_115 e_115
    show Win p.tables e below _ (T_116.setTop (mkF m 94 #[.val (.int p0), .val (.int p1), .val (.int p2), .val (.int p3), .val (.int p4), .val (.int p5), .val (.int xx), .val (.int yy), .val (.int (0 : Int32)), .val (.int zz), .val (.ref b_113), .unset] [(.int (0 : Int32))]))
    refine s_ifNo (pc' := 97) X_116.here hx (hb hby at_94) rfl ((if0 _ _).trans (teqI (x := (0 : Int32)) (y := (0 : Int32)) (by decide)).2) ?_
    refine s_aload (pc' := 99) X_116.here hx (hb hby at_97) rfl rfl rfl ?_
    refine s_iload (pc' := 101) X_116.here hx (hb hby at_99) rfl rfl ?_
    obtain ⟨cq_117, kq_117, q_117a, q_117b, q_117c⟩ := isOf hZ e_116 E_b_113
    obtain ⟨_, _, ⟨T_117, L_117, k_117, n_117⟩, -, X_117, ⟨Lc_117, hQ_117, l_117, y_117, z_117⟩, st_117⟩ := X_116.virtualBack hx (y := (⟨"com/example/nearstable/nearstable/maximal/Players", "slot", "(I)I"⟩ : MethodName)) (z := (⟨"com/example/nearstable/nearstable/maximal/Players", "slot", "(I)I"⟩ : MethodName)) hown (mvT hZ (hw _ (List.mem_of_getElem? (i := 40) rfl))) (mvT hZ (hw _ (List.mem_of_getElem? (i := 41) rfl))) (notFace_of_selects (args := #[]) (mvT hZ (hw _ (List.mem_of_getElem? (i := 43) rfl)))) (mvT hZ (hw _ (List.mem_of_getElem? (i := 43) rfl))) (mvT hZ (hw _ (List.mem_of_getElem? (i := 42) rfl))) (by decide) (backOf (W := 0) (rm5 l Z a0 hw [] b_113 xx sp_114 (fun _ => 0) h_115 n0 Zs F_slotPlus1_b_113 A_sp_114 (by omega)) hZ (hw _ (List.mem_of_getElem? (i := 44) rfl)) (hw _ (List.mem_of_getElem? (i := 3) rfl)) (by decide) (by decide)) q_117a q_117c (g := (mkF m 101 #[.val (.int p0), .val (.int p1), .val (.int p2), .val (.int p3), .val (.int p4), .val (.int p5), .val (.int xx), .val (.int yy), .val (.int (0 : Int32)), .val (.int zz), .val (.ref b_113), .unset] [(.int xx), (.ref b_113)])) rfl (by rw [hml]; rfl) (Steps.refl _) (argsL := [(.int xx)]) (rest := []) (lenOf pd_0 rfl) rfl (by show 2 * 0 + _ ≤ _; exact Nat.le_of_eq rfl) (hb hby at_101) (fun _ _ => ⟨rfl, e_116, (by decide : 8 + 0 ≤ _), (by decide : 113 + 0 ≤ _)⟩)
    dsimp only [Pt.U, Pt.locs, Pt.cells, Pt.slots] at X_117 l_117 y_117 z_117 st_117 hQ_117
    subst l_117 y_117 z_117
    obtain ⟨Nq_117, e_117, rfl⟩ := hQ_117
    replace Nf := Fr.app Nf Nq_117
    refine Win.come st_117 ?_
    clear st_117 Nq_117 X_116 e_116
    show Win p.tables e below _ (T_117.setTop (mkF m 104 #[.val (.int p0), .val (.int p1), .val (.int p2), .val (.int p3), .val (.int p4), .val (.int p5), .val (.int xx), .val (.int yy), .val (.int (0 : Int32)), .val (.int zz), .val (.ref b_113), .unset] [(.int (((fun _ => 0) (xx).toInt) - (1 : Int32)))]))
    refine s_iconst (pc' := 105) (z := (-1 : Int32)) X_117.here hx (hb hby at_104) rfl rfl ?_
    by_cases hc105 : ((((fun _ => 0) (xx).toInt) - (1 : Int32))).toInt = (-1 : Int)
    · skip
      refine s_icmpNo (pc' := 108) X_117.here hx (hb hby at_105) rfl (teqI (x := (((fun _ => 0) (xx).toInt) - (1 : Int32))) (y := (-1 : Int32)) hc105).2 ?_
      refine s_aload (pc' := 110) X_117.here hx (hb hby at_108) rfl rfl rfl ?_
      refine s_iload (pc' := 112) X_117.here hx (hb hby at_110) rfl rfl ?_
      obtain ⟨cq_118, kq_118, q_118a, q_118b, q_118c⟩ := isOf hZ e_117 E_b_113
      obtain ⟨_, _, ⟨T_118, L_118, k_118, n_118⟩, -, X_118, ⟨Lc_118, hQ_118, l_118, y_118, z_118⟩, st_118⟩ := X_117.virtualBack hx (y := (⟨"com/example/nearstable/nearstable/maximal/Players", "slot", "(I)I"⟩ : MethodName)) (z := (⟨"com/example/nearstable/nearstable/maximal/Players", "slot", "(I)I"⟩ : MethodName)) hown (mvT hZ (hw _ (List.mem_of_getElem? (i := 40) rfl))) (mvT hZ (hw _ (List.mem_of_getElem? (i := 41) rfl))) (notFace_of_selects (args := #[]) (mvT hZ (hw _ (List.mem_of_getElem? (i := 43) rfl)))) (mvT hZ (hw _ (List.mem_of_getElem? (i := 43) rfl))) (mvT hZ (hw _ (List.mem_of_getElem? (i := 42) rfl))) (by decide) (backOf (W := 0) (rm5 l Z a0 hw [] b_113 yy sp_114 (fun _ => 0) h_115 n0 Zs F_slotPlus1_b_113 A_sp_114 (by omega)) hZ (hw _ (List.mem_of_getElem? (i := 44) rfl)) (hw _ (List.mem_of_getElem? (i := 3) rfl)) (by decide) (by decide)) q_118a q_118c (g := (mkF m 112 #[.val (.int p0), .val (.int p1), .val (.int p2), .val (.int p3), .val (.int p4), .val (.int p5), .val (.int xx), .val (.int yy), .val (.int (0 : Int32)), .val (.int zz), .val (.ref b_113), .unset] [(.int yy), (.ref b_113)])) rfl (by rw [hml]; rfl) (Steps.refl _) (argsL := [(.int yy)]) (rest := []) (lenOf pd_0 rfl) rfl (by show 2 * 0 + _ ≤ _; exact Nat.le_of_eq rfl) (hb hby at_112) (fun _ _ => ⟨rfl, e_117, (by decide : 8 + 0 ≤ _), (by decide : 113 + 0 ≤ _)⟩)
      dsimp only [Pt.U, Pt.locs, Pt.cells, Pt.slots] at X_118 l_118 y_118 z_118 st_118 hQ_118
      subst l_118 y_118 z_118
      obtain ⟨Nq_118, e_118, rfl⟩ := hQ_118
      replace Nf := Fr.app Nf Nq_118
      refine Win.come st_118 ?_
      clear st_118 Nq_118 X_117 e_117
      show Win p.tables e below _ (T_118.setTop (mkF m 115 #[.val (.int p0), .val (.int p1), .val (.int p2), .val (.int p3), .val (.int p4), .val (.int p5), .val (.int xx), .val (.int yy), .val (.int (0 : Int32)), .val (.int zz), .val (.ref b_113), .unset] [(.int (((fun _ => 0) (yy).toInt) - (1 : Int32)))]))
      refine s_iconst (pc' := 116) (z := (-1 : Int32)) X_118.here hx (hb hby at_115) rfl rfl ?_
      by_cases hc116 : ((((fun _ => 0) (yy).toInt) - (1 : Int32))).toInt = (-1 : Int)
      · skip
        refine s_icmpNo (pc' := 119) X_118.here hx (hb hby at_116) rfl (teqI (x := (((fun _ => 0) (yy).toInt) - (1 : Int32))) (y := (-1 : Int32)) hc116).2 ?_
        refine s_iconst (pc' := 120) (z := (1 : Int32)) X_118.here hx (hb hby at_119) rfl rfl ?_
        refine s_goto (pc' := 124) X_118.here hx (hb hby at_120) (by decide) (by decide) ?_
        refine s_istore (pc' := 126) (l' := #[.val (.int p0), .val (.int p1), .val (.int p2), .val (.int p3), .val (.int p4), .val (.int p5), .val (.int xx), .val (.int yy), .val (.int (0 : Int32)), .val (.int zz), .val (.ref b_113), .val (.int (1 : Int32))]) X_118.here hx (hb hby at_124) rfl rfl ?_
        refine s_aload (pc' := 128) X_118.here hx (hb hby at_126) rfl rfl rfl ?_
        refine s_iload (pc' := 130) X_118.here hx (hb hby at_128) rfl rfl ?_
        refine s_iload (pc' := 132) X_118.here hx (hb hby at_130) rfl rfl ?_
        obtain ⟨cq_119, kq_119, q_119a, q_119b, q_119c⟩ := isOf hZ e_118 E_b_113
        obtain ⟨_, _, ⟨T_119, L_119, k_119, n_119⟩, -, X_119, ⟨Lc_119, hQ_119, l_119, y_119, z_119⟩, st_119⟩ := X_118.virtualBack hx (y := (⟨"com/example/nearstable/nearstable/maximal/Players", "add", "(II)V"⟩ : MethodName)) (z := (⟨"com/example/nearstable/nearstable/maximal/Players", "add", "(II)V"⟩ : MethodName)) hown (mvT hZ (hw _ (List.mem_of_getElem? (i := 45) rfl))) (mvT hZ (hw _ (List.mem_of_getElem? (i := 46) rfl))) (notFace_of_selects (args := #[]) (mvT hZ (hw _ (List.mem_of_getElem? (i := 48) rfl)))) (mvT hZ (hw _ (List.mem_of_getElem? (i := 48) rfl))) (mvT hZ (hw _ (List.mem_of_getElem? (i := 47) rfl))) (by decide) (backOf (W := 0) (rm6_0 l Z a0 hw [] b_113 zz p4 pl_114 fi_114 de_114 ed_114 pa_114 el_114 sp_114 (fun _ => 0) (fun _ => 0) (fun _ => 0) (fun _ => 0) (fun _ => 0) (fun _ => 0) (fun _ => 0) h_115 n0 Zs E_b_113 F_player_b_113 F_first_b_113 F_degree_b_113 F_edges_b_113 F_partner_b_113 F_edgeLeft_b_113 F_slotPlus1_b_113 F_slots_b_113 F_edgeCount_b_113 A_pl_114 A_fi_114 A_de_114 A_ed_114 A_pa_114 A_el_114 A_sp_114 g_b_113 g_pl_114 g_fi_114 g_de_114 g_ed_114 g_pa_114 g_el_114 g_sp_114 ne_b_113_pl_114 ne_b_113_fi_114 ne_b_113_de_114 ne_b_113_ed_114 ne_b_113_pa_114 ne_b_113_el_114 ne_b_113_sp_114 ne_pl_114_fi_114 ne_pl_114_de_114 ne_pl_114_ed_114 ne_pl_114_pa_114 ne_pl_114_el_114 ne_pl_114_sp_114 ne_fi_114_de_114 ne_fi_114_ed_114 ne_fi_114_pa_114 ne_fi_114_el_114 ne_fi_114_sp_114 ne_de_114_ed_114 ne_de_114_pa_114 ne_de_114_el_114 ne_de_114_sp_114 ne_ed_114_pa_114 ne_ed_114_el_114 ne_ed_114_sp_114 ne_pa_114_el_114 ne_pa_114_sp_114 ne_el_114_sp_114 (by omega) rfl) hZ (hw _ (List.mem_of_getElem? (i := 49) rfl)) (hw _ (List.mem_of_getElem? (i := 3) rfl)) (by decide) (by decide)) q_119a q_119c (g := (mkF m 132 #[.val (.int p0), .val (.int p1), .val (.int p2), .val (.int p3), .val (.int p4), .val (.int p5), .val (.int xx), .val (.int yy), .val (.int (0 : Int32)), .val (.int zz), .val (.ref b_113), .val (.int (1 : Int32))] [(.int p4), (.int zz), (.ref b_113)])) rfl (by rw [hml]; rfl) (Steps.refl _) (argsL := [(.int zz), (.int p4)]) (rest := []) (lenOf pd_4 rfl) rfl (by show 2 * 0 + _ ≤ _; exact Nat.le_of_eq rfl) (hb hby at_132) (fun _ _ => ⟨rfl, e_118, (by decide : 8 + 0 ≤ _), (by decide : 113 + 0 ≤ _)⟩)
        dsimp only [Pt.U, Pt.locs, Pt.cells, Pt.slots] at X_119 l_119 y_119 z_119 st_119 hQ_119
        subst l_119 y_119 z_119
        obtain ⟨h_119, e_119⟩ : ∃ z, T_119.heap = z := ⟨_, rfl⟩
        rw [e_119] at hQ_119
        obtain ⟨Nq_119, K_119, n_119_F_player_b_113, n_119_F_first_b_113, n_119_F_degree_b_113, n_119_F_edges_b_113, n_119_F_partner_b_113, n_119_F_edgeLeft_b_113, n_119_F_slotPlus1_b_113, n_119_F_slots_b_113, n_119_F_edgeCount_b_113, n_119_A_pl_114, n_119_A_fi_114, n_119_A_de_114, n_119_A_ed_114, n_119_A_pa_114, n_119_A_el_114, n_119_A_sp_114, rfl⟩ := hQ_119
        replace Nf := Fr.app Nf Nq_119
        replace E_b_113 := E_b_113.keep K_119
        clear A_pl_114
        clear A_fi_114
        clear A_de_114
        clear A_ed_114
        clear A_pa_114
        clear A_el_114
        clear F_player_b_113
        clear F_first_b_113
        clear F_degree_b_113
        clear F_edges_b_113
        clear F_partner_b_113
        clear F_edgeLeft_b_113
        clear F_slotPlus1_b_113
        clear F_slots_b_113
        clear F_edgeCount_b_113
        clear A_sp_114
        replace lt_b_113 := Nat.lt_of_lt_of_le lt_b_113 K_119.1
        replace lt_pl_114 := Nat.lt_of_lt_of_le lt_pl_114 K_119.1
        replace lt_fi_114 := Nat.lt_of_lt_of_le lt_fi_114 K_119.1
        replace lt_de_114 := Nat.lt_of_lt_of_le lt_de_114 K_119.1
        replace lt_ed_114 := Nat.lt_of_lt_of_le lt_ed_114 K_119.1
        replace lt_pa_114 := Nat.lt_of_lt_of_le lt_pa_114 K_119.1
        replace lt_el_114 := Nat.lt_of_lt_of_le lt_el_114 K_119.1
        replace lt_sp_114 := Nat.lt_of_lt_of_le lt_sp_114 K_119.1
        replace Zs := Nat.le_trans Zs K_119.1
        have F_player_b_113 := n_119_F_player_b_113
        have F_first_b_113 := n_119_F_first_b_113
        have F_degree_b_113 := n_119_F_degree_b_113
        have F_edges_b_113 := n_119_F_edges_b_113
        have F_partner_b_113 := n_119_F_partner_b_113
        have F_edgeLeft_b_113 := n_119_F_edgeLeft_b_113
        have F_slotPlus1_b_113 := n_119_F_slotPlus1_b_113
        have F_slots_b_113 := n_119_F_slots_b_113
        have F_edgeCount_b_113 := n_119_F_edgeCount_b_113
        have A_pl_114 := n_119_A_pl_114
        have A_fi_114 := n_119_A_fi_114
        have A_de_114 := n_119_A_de_114
        have A_ed_114 := n_119_A_ed_114
        have A_pa_114 := n_119_A_pa_114
        have A_el_114 := n_119_A_el_114
        have A_sp_114 := n_119_A_sp_114
        refine Win.come st_119 ?_
        clear st_119 Nq_119 X_118 e_118 K_119
        show Win p.tables e below _ (T_119.setTop (mkF m 135 #[.val (.int p0), .val (.int p1), .val (.int p2), .val (.int p3), .val (.int p4), .val (.int p5), .val (.int xx), .val (.int yy), .val (.int (0 : Int32)), .val (.int zz), .val (.ref b_113), .val (.int (1 : Int32))] []))
        refine s_iload (pc' := 137) X_119.here hx (hb hby at_135) rfl rfl ?_
        refine s_ifNo (pc' := 140) X_119.here hx (hb hby at_137) rfl ((if0 _ _).trans (feqI (x := (1 : Int32)) (y := (0 : Int32)) (by decide)).1) ?_
        refine s_aload (pc' := 142) X_119.here hx (hb hby at_140) rfl rfl rfl ?_
        obtain ⟨cq_120, kq_120, q_120a, q_120b, q_120c⟩ := isOf hZ e_119 E_b_113
        obtain ⟨_, _, ⟨T_120, L_120, k_120, n_120⟩, -, X_120, ⟨Lc_120, hQ_120, l_120, y_120, z_120⟩, st_120⟩ := X_119.virtualBack hx (y := (⟨"com/example/nearstable/nearstable/maximal/Players", "slots", "()I"⟩ : MethodName)) (z := (⟨"com/example/nearstable/nearstable/maximal/Players", "slots", "()I"⟩ : MethodName)) hown (mvT hZ (hw _ (List.mem_of_getElem? (i := 35) rfl))) (mvT hZ (hw _ (List.mem_of_getElem? (i := 36) rfl))) (notFace_of_selects (args := #[]) (mvT hZ (hw _ (List.mem_of_getElem? (i := 38) rfl)))) (mvT hZ (hw _ (List.mem_of_getElem? (i := 38) rfl))) (mvT hZ (hw _ (List.mem_of_getElem? (i := 37) rfl))) (by decide) (backOf (W := 0) (rm4 l Z a0 hw [] b_113 (1 : Int32) h_119 n0 Zs F_slots_b_113) hZ (hw _ (List.mem_of_getElem? (i := 39) rfl)) (hw _ (List.mem_of_getElem? (i := 3) rfl)) (by decide) (by decide)) q_120a q_120c (g := (mkF m 142 #[.val (.int p0), .val (.int p1), .val (.int p2), .val (.int p3), .val (.int p4), .val (.int p5), .val (.int xx), .val (.int yy), .val (.int (0 : Int32)), .val (.int zz), .val (.ref b_113), .val (.int (1 : Int32))] [(.ref b_113)])) rfl (by rw [hml]; rfl) (Steps.refl _) (argsL := []) (rest := []) (lenOf pd_3 rfl) rfl (by show 2 * 0 + _ ≤ _; exact Nat.le_of_eq rfl) (hb hby at_142) (fun _ _ => ⟨rfl, e_119, (by decide : 8 + 0 ≤ _), (by decide : 113 + 0 ≤ _)⟩)
        dsimp only [Pt.U, Pt.locs, Pt.cells, Pt.slots] at X_120 l_120 y_120 z_120 st_120 hQ_120
        subst l_120 y_120 z_120
        obtain ⟨Nq_120, e_120, rfl⟩ := hQ_120
        replace Nf := Fr.app Nf Nq_120
        refine Win.come st_120 ?_
        clear st_120 Nq_120 X_119 e_119
        show Win p.tables e below _ (T_120.setTop (mkF m 145 #[.val (.int p0), .val (.int p1), .val (.int p2), .val (.int p3), .val (.int p4), .val (.int p5), .val (.int xx), .val (.int yy), .val (.int (0 : Int32)), .val (.int zz), .val (.ref b_113), .val (.int (1 : Int32))] [(.int (1 : Int32))]))
        refine s_iconst (pc' := 146) (z := (1 : Int32)) X_120.here hx (hb hby at_145) rfl rfl ?_
        refine s_icmpNo (pc' := 149) X_120.here hx (hb hby at_146) rfl (teqI (x := (1 : Int32)) (y := (1 : Int32)) (by decide)).2 ?_
        refine s_aload (pc' := 151) X_120.here hx (hb hby at_149) rfl rfl rfl ?_
        refine s_iload (pc' := 153) X_120.here hx (hb hby at_151) rfl rfl ?_
        obtain ⟨cq_121, kq_121, q_121a, q_121b, q_121c⟩ := isOf hZ e_120 E_b_113
        obtain ⟨_, _, ⟨T_121, L_121, k_121, n_121⟩, -, X_121, ⟨Lc_121, hQ_121, l_121, y_121, z_121⟩, st_121⟩ := X_120.virtualBack hx (y := (⟨"com/example/nearstable/nearstable/maximal/Players", "slot", "(I)I"⟩ : MethodName)) (z := (⟨"com/example/nearstable/nearstable/maximal/Players", "slot", "(I)I"⟩ : MethodName)) hown (mvT hZ (hw _ (List.mem_of_getElem? (i := 40) rfl))) (mvT hZ (hw _ (List.mem_of_getElem? (i := 41) rfl))) (notFace_of_selects (args := #[]) (mvT hZ (hw _ (List.mem_of_getElem? (i := 43) rfl)))) (mvT hZ (hw _ (List.mem_of_getElem? (i := 43) rfl))) (mvT hZ (hw _ (List.mem_of_getElem? (i := 42) rfl))) (by decide) (backOf (W := 0) (rm5 l Z a0 hw [] b_113 zz sp_114 (updF (fun _ => 0) (zz).toInt (1 : Int32)) h_119 n0 Zs F_slotPlus1_b_113 A_sp_114 (by omega)) hZ (hw _ (List.mem_of_getElem? (i := 44) rfl)) (hw _ (List.mem_of_getElem? (i := 3) rfl)) (by decide) (by decide)) q_121a q_121c (g := (mkF m 153 #[.val (.int p0), .val (.int p1), .val (.int p2), .val (.int p3), .val (.int p4), .val (.int p5), .val (.int xx), .val (.int yy), .val (.int (0 : Int32)), .val (.int zz), .val (.ref b_113), .val (.int (1 : Int32))] [(.int zz), (.ref b_113)])) rfl (by rw [hml]; rfl) (Steps.refl _) (argsL := [(.int zz)]) (rest := []) (lenOf pd_0 rfl) rfl (by show 2 * 0 + _ ≤ _; exact Nat.le_of_eq rfl) (hb hby at_153) (fun _ _ => ⟨rfl, e_120, (by decide : 8 + 0 ≤ _), (by decide : 113 + 0 ≤ _)⟩)
        dsimp only [Pt.U, Pt.locs, Pt.cells, Pt.slots] at X_121 l_121 y_121 z_121 st_121 hQ_121
        subst l_121 y_121 z_121
        obtain ⟨Nq_121, e_121, rfl⟩ := hQ_121
        replace Nf := Fr.app Nf Nq_121
        refine Win.come st_121 ?_
        clear st_121 Nq_121 X_120 e_120
        show Win p.tables e below _ (T_121.setTop (mkF m 156 #[.val (.int p0), .val (.int p1), .val (.int p2), .val (.int p3), .val (.int p4), .val (.int p5), .val (.int xx), .val (.int yy), .val (.int (0 : Int32)), .val (.int zz), .val (.ref b_113), .val (.int (1 : Int32))] [(.int (((updF (fun _ => 0) (zz).toInt (1 : Int32)) (zz).toInt) - (1 : Int32)))]))
        by_cases hc156 : ((((updF (fun _ => 0) (zz).toInt (1 : Int32)) (zz).toInt) - (1 : Int32))).toInt = (0 : Int)
        · skip
          refine s_ifNo (pc' := 159) X_121.here hx (hb hby at_156) rfl ((if0 _ _).trans (teqI (x := (((updF (fun _ => 0) (zz).toInt (1 : Int32)) (zz).toInt) - (1 : Int32))) (y := (0 : Int32)) hc156).2) ?_
          refine s_aload (pc' := 161) X_121.here hx (hb hby at_159) rfl rfl rfl ?_
          refine s_iconst (pc' := 162) (z := (0 : Int32)) X_121.here hx (hb hby at_161) rfl rfl ?_
          refine s_iconst (pc' := 163) (z := (0 : Int32)) X_121.here hx (hb hby at_162) rfl rfl ?_
          obtain ⟨cq_122, kq_122, q_122a, q_122b, q_122c⟩ := isOf hZ e_121 E_b_113
          obtain ⟨_, _, ⟨T_122, L_122, k_122, n_122⟩, -, X_122, ⟨Lc_122, hQ_122, l_122, y_122, z_122⟩, st_122⟩ := X_121.virtualBack hx (y := (⟨"com/example/nearstable/nearstable/maximal/Players", "edge", "(II)I"⟩ : MethodName)) (z := (⟨"com/example/nearstable/nearstable/maximal/Players", "edge", "(II)I"⟩ : MethodName)) hown (mvT hZ (hw _ (List.mem_of_getElem? (i := 54) rfl))) (mvT hZ (hw _ (List.mem_of_getElem? (i := 55) rfl))) (notFace_of_selects (args := #[]) (mvT hZ (hw _ (List.mem_of_getElem? (i := 57) rfl)))) (mvT hZ (hw _ (List.mem_of_getElem? (i := 57) rfl))) (mvT hZ (hw _ (List.mem_of_getElem? (i := 56) rfl))) (by decide) (backOf (W := 0) (rm8 l Z a0 hw [] b_113 fi_114 ed_114 (updF (fun _ => 0) (0 : Int) (0 : Int32)) (updF (fun _ => 0) (0 : Int) p4) h_119 n0 Zs F_first_b_113 F_edges_b_113 A_fi_114 A_ed_114 (updF_hit _ _ _)) hZ (hw _ (List.mem_of_getElem? (i := 58) rfl)) (hw _ (List.mem_of_getElem? (i := 3) rfl)) (by decide) (by decide)) q_122a q_122c (g := (mkF m 163 #[.val (.int p0), .val (.int p1), .val (.int p2), .val (.int p3), .val (.int p4), .val (.int p5), .val (.int xx), .val (.int yy), .val (.int (0 : Int32)), .val (.int zz), .val (.ref b_113), .val (.int (1 : Int32))] [(.int (0 : Int32)), (.int (0 : Int32)), (.ref b_113)])) rfl (by rw [hml]; rfl) (Steps.refl _) (argsL := [(.int (0 : Int32)), (.int (0 : Int32))]) (rest := []) (lenOf pd_5 rfl) rfl (by show 2 * 0 + _ ≤ _; exact Nat.le_of_eq rfl) (hb hby at_163) (fun _ _ => ⟨rfl, e_121, (by decide : 8 + 0 ≤ _), (by decide : 113 + 0 ≤ _)⟩)
          dsimp only [Pt.U, Pt.locs, Pt.cells, Pt.slots] at X_122 l_122 y_122 z_122 st_122 hQ_122
          subst l_122 y_122 z_122
          obtain ⟨Nq_122, e_122, r, rfl, hr⟩ := hQ_122
          replace Nf := Fr.app Nf Nq_122
          refine Win.come st_122 ?_
          clear st_122 Nq_122 X_121 e_121
          show Win p.tables e below _ (T_122.setTop (mkF m 166 #[.val (.int p0), .val (.int p1), .val (.int p2), .val (.int p3), .val (.int p4), .val (.int p5), .val (.int xx), .val (.int yy), .val (.int (0 : Int32)), .val (.int zz), .val (.ref b_113), .val (.int (1 : Int32))] [(.int r)]))
          refine s_iload (pc' := 168) X_122.here hx (hb hby at_166) rfl rfl ?_
          by_cases hc168 : (r).toInt = (p4).toInt
          · skip
            refine s_icmpNo (pc' := 171) X_122.here hx (hb hby at_168) rfl (teqI (x := r) (y := p4) hc168).2 ?_
            refine s_aload (pc' := 173) X_122.here hx (hb hby at_171) rfl rfl rfl ?_
            refine s_iconst (pc' := 174) (z := (0 : Int32)) X_122.here hx (hb hby at_173) rfl rfl ?_
            obtain ⟨cq_123, kq_123, q_123a, q_123b, q_123c⟩ := isOf hZ e_122 E_b_113
            obtain ⟨_, _, ⟨T_123, L_123, k_123, n_123⟩, -, X_123, ⟨Lc_123, hQ_123, l_123, y_123, z_123⟩, st_123⟩ := X_122.virtualBack hx (y := (⟨"com/example/nearstable/nearstable/maximal/Players", "partner", "(I)I"⟩ : MethodName)) (z := (⟨"com/example/nearstable/nearstable/maximal/Players", "partner", "(I)I"⟩ : MethodName)) hown (mvT hZ (hw _ (List.mem_of_getElem? (i := 59) rfl))) (mvT hZ (hw _ (List.mem_of_getElem? (i := 60) rfl))) (notFace_of_selects (args := #[]) (mvT hZ (hw _ (List.mem_of_getElem? (i := 62) rfl)))) (mvT hZ (hw _ (List.mem_of_getElem? (i := 62) rfl))) (mvT hZ (hw _ (List.mem_of_getElem? (i := 61) rfl))) (by decide) (backOf (W := 0) (rm9 l Z a0 hw [] b_113 pa_114 (updF (fun _ => 0) (0 : Int) (0 : Int32)) h_119 n0 Zs F_partner_b_113 A_pa_114) hZ (hw _ (List.mem_of_getElem? (i := 63) rfl)) (hw _ (List.mem_of_getElem? (i := 3) rfl)) (by decide) (by decide)) q_123a q_123c (g := (mkF m 174 #[.val (.int p0), .val (.int p1), .val (.int p2), .val (.int p3), .val (.int p4), .val (.int p5), .val (.int xx), .val (.int yy), .val (.int (0 : Int32)), .val (.int zz), .val (.ref b_113), .val (.int (1 : Int32))] [(.int (0 : Int32)), (.ref b_113)])) rfl (by rw [hml]; rfl) (Steps.refl _) (argsL := [(.int (0 : Int32))]) (rest := []) (lenOf pd_0 rfl) rfl (by show 2 * 0 + _ ≤ _; exact Nat.le_of_eq rfl) (hb hby at_174) (fun _ _ => ⟨rfl, e_122, (by decide : 8 + 0 ≤ _), (by decide : 113 + 0 ≤ _)⟩)
            dsimp only [Pt.U, Pt.locs, Pt.cells, Pt.slots] at X_123 l_123 y_123 z_123 st_123 hQ_123
            subst l_123 y_123 z_123
            obtain ⟨Nq_123, e_123, rfl⟩ := hQ_123
            replace Nf := Fr.app Nf Nq_123
            refine Win.come st_123 ?_
            clear st_123 Nq_123 X_122 e_122
            show Win p.tables e below _ (T_123.setTop (mkF m 177 #[.val (.int p0), .val (.int p1), .val (.int p2), .val (.int p3), .val (.int p4), .val (.int p5), .val (.int xx), .val (.int yy), .val (.int (0 : Int32)), .val (.int zz), .val (.ref b_113), .val (.int (1 : Int32))] [(.int ((updF (fun _ => 0) (0 : Int) (0 : Int32)) (0 : Int)))]))
            by_cases hc177 : (((updF (fun _ => 0) (0 : Int) (0 : Int32)) (0 : Int))).toInt = (0 : Int)
            · skip
              refine s_ifNo (pc' := 180) X_123.here hx (hb hby at_177) rfl ((if0 _ _).trans (teqI (x := ((updF (fun _ => 0) (0 : Int) (0 : Int32)) (0 : Int))) (y := (0 : Int32)) hc177).2) ?_
              refine s_iconst (pc' := 181) (z := (1 : Int32)) X_123.here hx (hb hby at_180) rfl rfl ?_
              refine s_goto (pc' := 185) X_123.here hx (hb hby at_181) (by decide) (by decide) ?_
              refine winN X_123 hx hlk e_123 (t := .boolean) Bd.returns (by simp) (hb hby at_185) (by decide) (by decide) (z' := 1) rfl ⟨Nf, rfl⟩
            · skip
              exfalso
              exact hc177 (by rw [updF_hit]; rfl)
          · skip
            exfalso
            exact hc168 (by rw [hr, updF_hit])
        · skip
          exfalso
          exact hc156 (by rw [updF_hit]; rfl)
      · skip
        exfalso
        exact hc116 rfl
    · skip
      exfalso
      exact hc105 rfl
  · skip
    show Win p.tables e below _ (s₁.setTop (mkF m 29 #[.val (.int p0), .val (.int p1), .val (.int p2), .val (.int p3), .val (.int p4), .val (.int p5), .val (.int xx), .val (.int yy), .val (.int (1 : Int32)), .unset, .unset, .unset] []))
    refine s_iload (pc' := 31) X0.here hx (hb hby at_29) rfl rfl ?_
    refine s_bipush (pc' := 33) (z := (7 : Int32)) X0.here hx (hb hby at_31) rfl rfl ?_
    refine s_iand (pc' := 34) X0.here hx (hb hby at_33) rfl ?_
    refine s_istore (pc' := 36) (l' := #[.val (.int p0), .val (.int p1), .val (.int p2), .val (.int p3), .val (.int p4), .val (.int p5), .val (.int xx), .val (.int yy), .val (.int (1 : Int32)), .val (.int (p5 &&& (7 : Int32))), .unset, .unset]) X0.here hx (hb hby at_34) rfl rfl ?_
    generalize hzz : (p5 &&& (7 : Int32)) = zz
    show Win p.tables e below _ (s₁.setTop (mkF m 36 #[.val (.int p0), .val (.int p1), .val (.int p2), .val (.int p3), .val (.int p4), .val (.int p5), .val (.int xx), .val (.int yy), .val (.int (1 : Int32)), .val (.int zz), .unset, .unset] []))
    have bzz : 0 ≤ zz.toInt ∧ zz.toInt ≤ 7 := hzz ▸ c_and p5 7 (by decide)
    obtain ⟨T_124, h_124, X_124, e_124, Ex_124, A_124, D_124, -, st_124⟩ := newO X0 hx hZ hown (hw _ (List.mem_of_getElem? (i := 1) rfl)) (hw _ (List.mem_of_getElem? (i := 2) rfl)) (hw _ (List.mem_of_getElem? (i := 3) rfl)) e0 (g := (mkF m 36 #[.val (.int p0), .val (.int p1), .val (.int p2), .val (.int p3), .val (.int p4), .val (.int p5), .val (.int xx), .val (.int yy), .val (.int (1 : Int32)), .val (.int zz), .unset, .unset] [])) rfl (hb hby at_36) (by decide) (by decide)
    obtain ⟨b_124, g_124⟩ : ∃ z, z = h0.size := ⟨_, rfl⟩
    have g_b_124 : n0 ≤ b_124 := Nat.le_trans Zs (Nat.le_of_eq g_124.symm)
    rw [← g_124] at A_124 D_124 st_124
    replace Zs := Nat.le_trans Zs Ex_124.1
    have E_b_124 := A_124
    have lt_b_124 := E_b_124.lt
    have F_player_b_124 : Fld Z h_124 b_124 "com/example/nearstable/nearstable/maximal/Players" "player" "[I" .null := D_124 (Or.inl (hw _ (List.mem_of_getElem? (i := 12) rfl))) (ty := (.array .int)) (by decide)
    have F_first_b_124 : Fld Z h_124 b_124 "com/example/nearstable/nearstable/maximal/Players" "first" "[I" .null := D_124 (Or.inl (hw _ (List.mem_of_getElem? (i := 14) rfl))) (ty := (.array .int)) (by decide)
    have F_degree_b_124 : Fld Z h_124 b_124 "com/example/nearstable/nearstable/maximal/Players" "degree" "[I" .null := D_124 (Or.inl (hw _ (List.mem_of_getElem? (i := 16) rfl))) (ty := (.array .int)) (by decide)
    have F_edges_b_124 : Fld Z h_124 b_124 "com/example/nearstable/nearstable/maximal/Players" "edges" "[I" .null := D_124 (Or.inl (hw _ (List.mem_of_getElem? (i := 18) rfl))) (ty := (.array .int)) (by decide)
    have F_partner_b_124 : Fld Z h_124 b_124 "com/example/nearstable/nearstable/maximal/Players" "partner" "[I" .null := D_124 (Or.inl (hw _ (List.mem_of_getElem? (i := 20) rfl))) (ty := (.array .int)) (by decide)
    have F_edgeLeft_b_124 : Fld Z h_124 b_124 "com/example/nearstable/nearstable/maximal/Players" "edgeLeft" "[Z" .null := D_124 (Or.inl (hw _ (List.mem_of_getElem? (i := 23) rfl))) (ty := (.array .boolean)) (by decide)
    have F_slotPlus1_b_124 : Fld Z h_124 b_124 "com/example/nearstable/nearstable/maximal/Players" "slotPlus1" "[I" .null := D_124 (Or.inr (hw _ (List.mem_of_getElem? (i := 25) rfl))) (ty := (.array .int)) (by decide)
    have F_slots_b_124 : Fld Z h_124 b_124 "com/example/nearstable/nearstable/maximal/Players" "slots" "I" (.int (0 : Int32)) := D_124 (Or.inl (hw _ (List.mem_of_getElem? (i := 32) rfl))) (ty := .int) (by decide)
    have F_edgeCount_b_124 : Fld Z h_124 b_124 "com/example/nearstable/nearstable/maximal/Players" "edgeCount" "I" (.int (0 : Int32)) := D_124 (Or.inl (hw _ (List.mem_of_getElem? (i := 34) rfl))) (ty := .int) (by decide)
    refine Win.go st_124 ?_
    clear st_124 Ex_124 A_124 D_124 g_124 X0 e0
    show Win p.tables e below _ (T_124.setTop (mkF m 39 #[.val (.int p0), .val (.int p1), .val (.int p2), .val (.int p3), .val (.int p4), .val (.int p5), .val (.int xx), .val (.int yy), .val (.int (1 : Int32)), .val (.int zz), .unset, .unset] [(.ref b_124)]))
    refine s_dup (pc' := 40) X_124.here hx (hb hby at_39) rfl rfl ?_
    refine s_bipush (pc' := 42) (z := (7 : Int32)) X_124.here hx (hb hby at_40) rfl rfl ?_
    obtain ⟨_, _, ⟨T_125, L_125, k_125, n_125⟩, -, X_125, ⟨Lc_125, hQ_125, l_125, y_125, z_125⟩, st_125⟩ := X_124.specialBack hx (y := (⟨"com/example/nearstable/nearstable/maximal/Players", "<init>", "(I)V"⟩ : MethodName)) rfl hown (mvT hZ (hw _ (List.mem_of_getElem? (i := 4) rfl))) (mvT hZ (hw _ (List.mem_of_getElem? (i := 5) rfl))) (mvT hZ (hw _ (List.mem_of_getElem? (i := 6) rfl))) (by decide) (backOf (W := 1) (rm1 l Z a0 hw [] b_124 h_124 n0 Zs E_b_124 F_player_b_124 F_first_b_124 F_degree_b_124 F_edges_b_124 F_partner_b_124 F_edgeLeft_b_124 F_slotPlus1_b_124 F_slots_b_124 F_edgeCount_b_124 g_b_124) hZ (hw _ (List.mem_of_getElem? (i := 6) rfl)) (hw _ (List.mem_of_getElem? (i := 3) rfl)) (by decide) (by decide)) (g := (mkF m 42 #[.val (.int p0), .val (.int p1), .val (.int p2), .val (.int p3), .val (.int p4), .val (.int p5), .val (.int xx), .val (.int yy), .val (.int (1 : Int32)), .val (.int zz), .unset, .unset] [(.int (7 : Int32)), (.ref b_124), (.ref b_124)])) rfl (by rw [hml]; rfl) (Steps.refl _) (a := b_124) (argsL := [(.int (7 : Int32))]) (rest := [(.ref b_124)]) (lenOf pd_1 rfl) rfl (by show 2 * 0 + _ ≤ _; exact Nat.le_of_eq rfl) (hb hby at_42) (fun _ _ => ⟨rfl, e_124, (by decide : 1 + 7 ≤ _), (by decide : 9 + 104 ≤ _)⟩)
    dsimp only [Pt.U, Pt.locs, Pt.cells, Pt.slots] at X_125 l_125 y_125 z_125 st_125 hQ_125
    subst l_125 y_125 z_125
    obtain ⟨h_125, e_125⟩ : ∃ z, T_125.heap = z := ⟨_, rfl⟩
    rw [e_125] at hQ_125
    obtain ⟨Nq_125, K_125, ⟨pl_125, fi_125, de_125, ed_125, pa_125, el_125, sp_125, g_pl_125, so_pl_125, g_fi_125, so_fi_125, g_de_125, so_de_125, g_ed_125, so_ed_125, g_pa_125, so_pa_125, g_el_125, so_el_125, g_sp_125, so_sp_125, ne_pl_125_fi_125, ne_pl_125_de_125, ne_pl_125_ed_125, ne_pl_125_pa_125, ne_pl_125_el_125, ne_pl_125_sp_125, ne_fi_125_de_125, ne_fi_125_ed_125, ne_fi_125_pa_125, ne_fi_125_el_125, ne_fi_125_sp_125, ne_de_125_ed_125, ne_de_125_pa_125, ne_de_125_el_125, ne_de_125_sp_125, ne_ed_125_pa_125, ne_ed_125_el_125, ne_ed_125_sp_125, ne_pa_125_el_125, ne_pa_125_sp_125, ne_el_125_sp_125, n_125_F_player_b_124, n_125_F_first_b_124, n_125_F_degree_b_124, n_125_F_edges_b_124, n_125_F_partner_b_124, n_125_F_edgeLeft_b_124, n_125_F_slotPlus1_b_124, n_125_F_slots_b_124, n_125_F_edgeCount_b_124, n_125_A_pl_125, n_125_A_fi_125, n_125_A_de_125, n_125_A_ed_125, n_125_A_pa_125, n_125_A_el_125, n_125_A_sp_125⟩, rfl⟩ := hQ_125
    replace Nf := Fr.app Nf Nq_125
    have ne_b_124_pl_125 : b_124 ≠ pl_125 := Nat.ne_of_lt (Nat.lt_of_lt_of_le lt_b_124 so_pl_125)
    have ne_b_124_fi_125 : b_124 ≠ fi_125 := Nat.ne_of_lt (Nat.lt_of_lt_of_le lt_b_124 so_fi_125)
    have ne_b_124_de_125 : b_124 ≠ de_125 := Nat.ne_of_lt (Nat.lt_of_lt_of_le lt_b_124 so_de_125)
    have ne_b_124_ed_125 : b_124 ≠ ed_125 := Nat.ne_of_lt (Nat.lt_of_lt_of_le lt_b_124 so_ed_125)
    have ne_b_124_pa_125 : b_124 ≠ pa_125 := Nat.ne_of_lt (Nat.lt_of_lt_of_le lt_b_124 so_pa_125)
    have ne_b_124_el_125 : b_124 ≠ el_125 := Nat.ne_of_lt (Nat.lt_of_lt_of_le lt_b_124 so_el_125)
    have ne_b_124_sp_125 : b_124 ≠ sp_125 := Nat.ne_of_lt (Nat.lt_of_lt_of_le lt_b_124 so_sp_125)
    replace E_b_124 := E_b_124.keep K_125
    clear F_player_b_124
    clear F_first_b_124
    clear F_degree_b_124
    clear F_edges_b_124
    clear F_partner_b_124
    clear F_edgeLeft_b_124
    clear F_slotPlus1_b_124
    clear F_slots_b_124
    clear F_edgeCount_b_124
    replace lt_b_124 := Nat.lt_of_lt_of_le lt_b_124 K_125.1
    replace Zs := Nat.le_trans Zs K_125.1
    have F_player_b_124 := n_125_F_player_b_124
    have F_first_b_124 := n_125_F_first_b_124
    have F_degree_b_124 := n_125_F_degree_b_124
    have F_edges_b_124 := n_125_F_edges_b_124
    have F_partner_b_124 := n_125_F_partner_b_124
    have F_edgeLeft_b_124 := n_125_F_edgeLeft_b_124
    have F_slotPlus1_b_124 := n_125_F_slotPlus1_b_124
    have F_slots_b_124 := n_125_F_slots_b_124
    have F_edgeCount_b_124 := n_125_F_edgeCount_b_124
    have A_pl_125 := n_125_A_pl_125
    have A_fi_125 := n_125_A_fi_125
    have A_de_125 := n_125_A_de_125
    have A_ed_125 := n_125_A_ed_125
    have A_pa_125 := n_125_A_pa_125
    have A_el_125 := n_125_A_el_125
    have A_sp_125 := n_125_A_sp_125
    have lt_pl_125 := A_pl_125.lt
    have lt_fi_125 := A_fi_125.lt
    have lt_de_125 := A_de_125.lt
    have lt_ed_125 := A_ed_125.lt
    have lt_pa_125 := A_pa_125.lt
    have lt_el_125 := A_el_125.lt
    have lt_sp_125 := A_sp_125.lt
    refine Win.come st_125 ?_
    clear st_125 Nq_125 X_124 e_124 K_125
    show Win p.tables e below _ (T_125.setTop (mkF m 45 #[.val (.int p0), .val (.int p1), .val (.int p2), .val (.int p3), .val (.int p4), .val (.int p5), .val (.int xx), .val (.int yy), .val (.int (1 : Int32)), .val (.int zz), .unset, .unset] [(.ref b_124)]))
    refine s_astore (pc' := 47) (l' := #[.val (.int p0), .val (.int p1), .val (.int p2), .val (.int p3), .val (.int p4), .val (.int p5), .val (.int xx), .val (.int yy), .val (.int (1 : Int32)), .val (.int zz), .val (.ref b_124), .unset]) X_125.here hx (hb hby at_45) rfl rfl rfl ?_
    refine s_iload (pc' := 49) X_125.here hx (hb hby at_47) rfl rfl ?_
    refine s_iconst (pc' := 50) (z := (1 : Int32)) X_125.here hx (hb hby at_49) rfl rfl ?_
    refine s_icmpNo (pc' := 53) X_125.here hx (hb hby at_50) rfl (fltI (x := (1 : Int32)) (y := (1 : Int32)) (by decide)).1 ?_
    refine s_aload (pc' := 55) X_125.here hx (hb hby at_53) rfl rfl rfl ?_
    refine s_iload (pc' := 57) X_125.here hx (hb hby at_55) rfl rfl ?_
    refine s_iloadN (pc' := 58) X_125.here hx (hb hby at_57) rfl rfl ?_
    obtain ⟨cq_126, kq_126, q_126a, q_126b, q_126c⟩ := isOf hZ e_125 E_b_124
    obtain ⟨_, _, ⟨T_126, L_126, k_126, n_126⟩, -, X_126, ⟨Lc_126, hQ_126, l_126, y_126, z_126⟩, st_126⟩ := X_125.virtualBack hx (y := (⟨"com/example/nearstable/nearstable/maximal/Players", "add", "(II)V"⟩ : MethodName)) (z := (⟨"com/example/nearstable/nearstable/maximal/Players", "add", "(II)V"⟩ : MethodName)) hown (mvT hZ (hw _ (List.mem_of_getElem? (i := 45) rfl))) (mvT hZ (hw _ (List.mem_of_getElem? (i := 46) rfl))) (notFace_of_selects (args := #[]) (mvT hZ (hw _ (List.mem_of_getElem? (i := 48) rfl)))) (mvT hZ (hw _ (List.mem_of_getElem? (i := 48) rfl))) (mvT hZ (hw _ (List.mem_of_getElem? (i := 47) rfl))) (by decide) (backOf (W := 0) (rm6_0 l Z a0 hw [] b_124 xx p2 pl_125 fi_125 de_125 ed_125 pa_125 el_125 sp_125 (fun _ => 0) (fun _ => 0) (fun _ => 0) (fun _ => 0) (fun _ => 0) (fun _ => 0) (fun _ => 0) h_125 n0 Zs E_b_124 F_player_b_124 F_first_b_124 F_degree_b_124 F_edges_b_124 F_partner_b_124 F_edgeLeft_b_124 F_slotPlus1_b_124 F_slots_b_124 F_edgeCount_b_124 A_pl_125 A_fi_125 A_de_125 A_ed_125 A_pa_125 A_el_125 A_sp_125 g_b_124 g_pl_125 g_fi_125 g_de_125 g_ed_125 g_pa_125 g_el_125 g_sp_125 ne_b_124_pl_125 ne_b_124_fi_125 ne_b_124_de_125 ne_b_124_ed_125 ne_b_124_pa_125 ne_b_124_el_125 ne_b_124_sp_125 ne_pl_125_fi_125 ne_pl_125_de_125 ne_pl_125_ed_125 ne_pl_125_pa_125 ne_pl_125_el_125 ne_pl_125_sp_125 ne_fi_125_de_125 ne_fi_125_ed_125 ne_fi_125_pa_125 ne_fi_125_el_125 ne_fi_125_sp_125 ne_de_125_ed_125 ne_de_125_pa_125 ne_de_125_el_125 ne_de_125_sp_125 ne_ed_125_pa_125 ne_ed_125_el_125 ne_ed_125_sp_125 ne_pa_125_el_125 ne_pa_125_sp_125 ne_el_125_sp_125 (by omega) rfl) hZ (hw _ (List.mem_of_getElem? (i := 49) rfl)) (hw _ (List.mem_of_getElem? (i := 3) rfl)) (by decide) (by decide)) q_126a q_126c (g := (mkF m 58 #[.val (.int p0), .val (.int p1), .val (.int p2), .val (.int p3), .val (.int p4), .val (.int p5), .val (.int xx), .val (.int yy), .val (.int (1 : Int32)), .val (.int zz), .val (.ref b_124), .unset] [(.int p2), (.int xx), (.ref b_124)])) rfl (by rw [hml]; rfl) (Steps.refl _) (argsL := [(.int xx), (.int p2)]) (rest := []) (lenOf pd_4 rfl) rfl (by show 2 * 0 + _ ≤ _; exact Nat.le_of_eq rfl) (hb hby at_58) (fun _ _ => ⟨rfl, e_125, (by decide : 8 + 0 ≤ _), (by decide : 113 + 0 ≤ _)⟩)
    dsimp only [Pt.U, Pt.locs, Pt.cells, Pt.slots] at X_126 l_126 y_126 z_126 st_126 hQ_126
    subst l_126 y_126 z_126
    obtain ⟨h_126, e_126⟩ : ∃ z, T_126.heap = z := ⟨_, rfl⟩
    rw [e_126] at hQ_126
    obtain ⟨Nq_126, K_126, n_126_F_player_b_124, n_126_F_first_b_124, n_126_F_degree_b_124, n_126_F_edges_b_124, n_126_F_partner_b_124, n_126_F_edgeLeft_b_124, n_126_F_slotPlus1_b_124, n_126_F_slots_b_124, n_126_F_edgeCount_b_124, n_126_A_pl_125, n_126_A_fi_125, n_126_A_de_125, n_126_A_ed_125, n_126_A_pa_125, n_126_A_el_125, n_126_A_sp_125, rfl⟩ := hQ_126
    replace Nf := Fr.app Nf Nq_126
    replace E_b_124 := E_b_124.keep K_126
    clear F_player_b_124
    clear F_first_b_124
    clear F_degree_b_124
    clear F_edges_b_124
    clear F_partner_b_124
    clear F_edgeLeft_b_124
    clear F_slotPlus1_b_124
    clear F_slots_b_124
    clear F_edgeCount_b_124
    clear A_pl_125
    clear A_fi_125
    clear A_de_125
    clear A_ed_125
    clear A_pa_125
    clear A_el_125
    clear A_sp_125
    replace lt_b_124 := Nat.lt_of_lt_of_le lt_b_124 K_126.1
    replace lt_pl_125 := Nat.lt_of_lt_of_le lt_pl_125 K_126.1
    replace lt_fi_125 := Nat.lt_of_lt_of_le lt_fi_125 K_126.1
    replace lt_de_125 := Nat.lt_of_lt_of_le lt_de_125 K_126.1
    replace lt_ed_125 := Nat.lt_of_lt_of_le lt_ed_125 K_126.1
    replace lt_pa_125 := Nat.lt_of_lt_of_le lt_pa_125 K_126.1
    replace lt_el_125 := Nat.lt_of_lt_of_le lt_el_125 K_126.1
    replace lt_sp_125 := Nat.lt_of_lt_of_le lt_sp_125 K_126.1
    replace Zs := Nat.le_trans Zs K_126.1
    have F_player_b_124 := n_126_F_player_b_124
    have F_first_b_124 := n_126_F_first_b_124
    have F_degree_b_124 := n_126_F_degree_b_124
    have F_edges_b_124 := n_126_F_edges_b_124
    have F_partner_b_124 := n_126_F_partner_b_124
    have F_edgeLeft_b_124 := n_126_F_edgeLeft_b_124
    have F_slotPlus1_b_124 := n_126_F_slotPlus1_b_124
    have F_slots_b_124 := n_126_F_slots_b_124
    have F_edgeCount_b_124 := n_126_F_edgeCount_b_124
    have A_pl_125 := n_126_A_pl_125
    have A_fi_125 := n_126_A_fi_125
    have A_de_125 := n_126_A_de_125
    have A_ed_125 := n_126_A_ed_125
    have A_pa_125 := n_126_A_pa_125
    have A_el_125 := n_126_A_el_125
    have A_sp_125 := n_126_A_sp_125
    refine Win.come st_126 ?_
    clear st_126 Nq_126 X_125 e_125 K_126
    show Win p.tables e below _ (T_126.setTop (mkF m 61 #[.val (.int p0), .val (.int p1), .val (.int p2), .val (.int p3), .val (.int p4), .val (.int p5), .val (.int xx), .val (.int yy), .val (.int (1 : Int32)), .val (.int zz), .val (.ref b_124), .unset] []))
    refine s_aload (pc' := 63) X_126.here hx (hb hby at_61) rfl rfl rfl ?_
    refine s_iconst (pc' := 64) (z := (0 : Int32)) X_126.here hx (hb hby at_63) rfl rfl ?_
    refine s_iloadN (pc' := 65) X_126.here hx (hb hby at_64) rfl rfl ?_
    refine s_iconst (pc' := 66) (z := (1 : Int32)) X_126.here hx (hb hby at_65) rfl rfl ?_
    refine s_ior (pc' := 67) X_126.here hx (hb hby at_66) rfl ?_
    obtain ⟨cq_127, kq_127, q_127a, q_127b, q_127c⟩ := isOf hZ e_126 E_b_124
    obtain ⟨_, _, ⟨T_127, L_127, k_127, n_127⟩, -, X_127, ⟨Lc_127, hQ_127, l_127, y_127, z_127⟩, st_127⟩ := X_126.virtualBack hx (y := (⟨"com/example/nearstable/nearstable/maximal/Players", "match", "(II)V"⟩ : MethodName)) (z := (⟨"com/example/nearstable/nearstable/maximal/Players", "match", "(II)V"⟩ : MethodName)) hown (mvT hZ (hw _ (List.mem_of_getElem? (i := 64) rfl))) (mvT hZ (hw _ (List.mem_of_getElem? (i := 65) rfl))) (notFace_of_selects (args := #[]) (mvT hZ (hw _ (List.mem_of_getElem? (i := 67) rfl)))) (mvT hZ (hw _ (List.mem_of_getElem? (i := 67) rfl))) (mvT hZ (hw _ (List.mem_of_getElem? (i := 66) rfl))) (by decide) (backOf (W := 0) (rm10 l Z a0 hw [] b_124 (p2 ||| (1 : Int32)) pa_125 (updF (fun _ => 0) (0 : Int) (0 : Int32)) h_126 n0 Zs F_partner_b_124 A_pa_125 g_pa_125 ne_b_124_pa_125) hZ (hw _ (List.mem_of_getElem? (i := 68) rfl)) (hw _ (List.mem_of_getElem? (i := 3) rfl)) (by decide) (by decide)) q_127a q_127c (g := (mkF m 67 #[.val (.int p0), .val (.int p1), .val (.int p2), .val (.int p3), .val (.int p4), .val (.int p5), .val (.int xx), .val (.int yy), .val (.int (1 : Int32)), .val (.int zz), .val (.ref b_124), .unset] [(.int (p2 ||| (1 : Int32))), (.int (0 : Int32)), (.ref b_124)])) rfl (by rw [hml]; rfl) (Steps.refl _) (argsL := [(.int (0 : Int32)), (.int (p2 ||| (1 : Int32)))]) (rest := []) (lenOf pd_4 rfl) rfl (by show 2 * 0 + _ ≤ _; exact Nat.le_of_eq rfl) (hb hby at_67) (fun _ _ => ⟨rfl, e_126, (by decide : 8 + 0 ≤ _), (by decide : 113 + 0 ≤ _)⟩)
    dsimp only [Pt.U, Pt.locs, Pt.cells, Pt.slots] at X_127 l_127 y_127 z_127 st_127 hQ_127
    subst l_127 y_127 z_127
    obtain ⟨h_127, e_127⟩ : ∃ z, T_127.heap = z := ⟨_, rfl⟩
    rw [e_127] at hQ_127
    obtain ⟨Nq_127, K_127, n_127_A_pa_125, rfl⟩ := hQ_127
    replace Nf := Fr.app Nf Nq_127
    replace E_b_124 := E_b_124.keep K_127
    replace F_player_b_124 := F_player_b_124.keep K_127 (ninS ne_b_124_pa_125 nin0)
    replace F_first_b_124 := F_first_b_124.keep K_127 (ninS ne_b_124_pa_125 nin0)
    replace F_degree_b_124 := F_degree_b_124.keep K_127 (ninS ne_b_124_pa_125 nin0)
    replace F_edges_b_124 := F_edges_b_124.keep K_127 (ninS ne_b_124_pa_125 nin0)
    replace F_partner_b_124 := F_partner_b_124.keep K_127 (ninS ne_b_124_pa_125 nin0)
    replace F_edgeLeft_b_124 := F_edgeLeft_b_124.keep K_127 (ninS ne_b_124_pa_125 nin0)
    replace F_slotPlus1_b_124 := F_slotPlus1_b_124.keep K_127 (ninS ne_b_124_pa_125 nin0)
    replace F_slots_b_124 := F_slots_b_124.keep K_127 (ninS ne_b_124_pa_125 nin0)
    replace F_edgeCount_b_124 := F_edgeCount_b_124.keep K_127 (ninS ne_b_124_pa_125 nin0)
    replace A_pl_125 := A_pl_125.keep K_127 (ninS ne_pl_125_pa_125 nin0)
    replace A_fi_125 := A_fi_125.keep K_127 (ninS ne_fi_125_pa_125 nin0)
    replace A_de_125 := A_de_125.keep K_127 (ninS ne_de_125_pa_125 nin0)
    replace A_ed_125 := A_ed_125.keep K_127 (ninS ne_ed_125_pa_125 nin0)
    clear A_pa_125
    replace A_el_125 := A_el_125.keep K_127 (ninS (Ne.symm ne_pa_125_el_125) nin0)
    replace A_sp_125 := A_sp_125.keep K_127 (ninS (Ne.symm ne_pa_125_sp_125) nin0)
    replace lt_b_124 := Nat.lt_of_lt_of_le lt_b_124 K_127.1
    replace lt_pl_125 := Nat.lt_of_lt_of_le lt_pl_125 K_127.1
    replace lt_fi_125 := Nat.lt_of_lt_of_le lt_fi_125 K_127.1
    replace lt_de_125 := Nat.lt_of_lt_of_le lt_de_125 K_127.1
    replace lt_ed_125 := Nat.lt_of_lt_of_le lt_ed_125 K_127.1
    replace lt_pa_125 := Nat.lt_of_lt_of_le lt_pa_125 K_127.1
    replace lt_el_125 := Nat.lt_of_lt_of_le lt_el_125 K_127.1
    replace lt_sp_125 := Nat.lt_of_lt_of_le lt_sp_125 K_127.1
    replace Zs := Nat.le_trans Zs K_127.1
    have A_pa_125 := n_127_A_pa_125
    refine Win.come st_127 ?_
    clear st_127 Nq_127 X_126 e_126 K_127
    show Win p.tables e below _ (T_127.setTop (mkF m 70 #[.val (.int p0), .val (.int p1), .val (.int p2), .val (.int p3), .val (.int p4), .val (.int p5), .val (.int xx), .val (.int yy), .val (.int (1 : Int32)), .val (.int zz), .val (.ref b_124), .unset] []))
    refine s_iload (pc' := 72) X_127.here hx (hb hby at_70) rfl rfl ?_
    refine s_iconst (pc' := 73) (z := (2 : Int32)) X_127.here hx (hb hby at_72) rfl rfl ?_
    refine s_icmpYes (pc' := 84) X_127.here hx (hb hby at_73) (tltI (x := (1 : Int32)) (y := (2 : Int32)) (by decide)).1 (by decide) (by decide) ?_
    refine s_aload (pc' := 86) X_127.here hx (hb hby at_84) rfl rfl rfl ?_
    obtain ⟨cq_128, kq_128, q_128a, q_128b, q_128c⟩ := isOf hZ e_127 E_b_124
    obtain ⟨_, _, ⟨T_128, L_128, k_128, n_128⟩, -, X_128, ⟨Lc_128, hQ_128, l_128, y_128, z_128⟩, st_128⟩ := X_127.virtualBack hx (y := (⟨"com/example/nearstable/nearstable/maximal/Players", "clear", "()V"⟩ : MethodName)) (z := (⟨"com/example/nearstable/nearstable/maximal/Players", "clear", "()V"⟩ : MethodName)) hown (mvT hZ (hw _ (List.mem_of_getElem? (i := 26) rfl))) (mvT hZ (hw _ (List.mem_of_getElem? (i := 27) rfl))) (notFace_of_selects (args := #[]) (mvT hZ (hw _ (List.mem_of_getElem? (i := 29) rfl)))) (mvT hZ (hw _ (List.mem_of_getElem? (i := 29) rfl))) (mvT hZ (hw _ (List.mem_of_getElem? (i := 28) rfl))) (by decide) (backOf (W := 0) (rm3_1 l Z a0 hw [] b_124 pl_125 fi_125 de_125 ed_125 pa_125 el_125 sp_125 (updF (fun _ => 0) (0 : Int) xx) (updF (fun _ => 0) (0 : Int) (0 : Int32)) (updF (updF (fun _ => 0) (0 : Int) (0 : Int32)) (0 : Int) ((updF (fun _ => 0) (0 : Int) (0 : Int32)) (0 : Int) + (1 : Int32))) (updF (fun _ => 0) (0 : Int) p2) (updF (updF (fun _ => 0) (0 : Int) (0 : Int32)) (0 : Int) (p2 ||| (1 : Int32))) (updF (fun _ => 0) (0 : Int) (0 : Int32)) (updF (fun _ => 0) (xx).toInt (1 : Int32)) h_127 n0 Zs E_b_124 F_player_b_124 F_first_b_124 F_degree_b_124 F_edges_b_124 F_partner_b_124 F_edgeLeft_b_124 F_slotPlus1_b_124 F_slots_b_124 F_edgeCount_b_124 A_pl_125 A_fi_125 A_de_125 A_ed_125 A_pa_125 A_el_125 A_sp_125 g_b_124 g_pl_125 g_fi_125 g_de_125 g_ed_125 g_pa_125 g_el_125 g_sp_125 ne_b_124_pl_125 ne_b_124_fi_125 ne_b_124_de_125 ne_b_124_ed_125 ne_b_124_pa_125 ne_b_124_el_125 ne_b_124_sp_125 ne_pl_125_fi_125 ne_pl_125_de_125 ne_pl_125_ed_125 ne_pl_125_pa_125 ne_pl_125_el_125 ne_pl_125_sp_125 ne_fi_125_de_125 ne_fi_125_ed_125 ne_fi_125_pa_125 ne_fi_125_el_125 ne_fi_125_sp_125 ne_de_125_ed_125 ne_de_125_pa_125 ne_de_125_el_125 ne_de_125_sp_125 ne_ed_125_pa_125 ne_ed_125_el_125 ne_ed_125_sp_125 ne_pa_125_el_125 ne_pa_125_sp_125 ne_el_125_sp_125 (by simp [updF]; omega)) hZ (hw _ (List.mem_of_getElem? (i := 30) rfl)) (hw _ (List.mem_of_getElem? (i := 3) rfl)) (by decide) (by decide)) q_128a q_128c (g := (mkF m 86 #[.val (.int p0), .val (.int p1), .val (.int p2), .val (.int p3), .val (.int p4), .val (.int p5), .val (.int xx), .val (.int yy), .val (.int (1 : Int32)), .val (.int zz), .val (.ref b_124), .unset] [(.ref b_124)])) rfl (by rw [hml]; rfl) (Steps.refl _) (argsL := []) (rest := []) (lenOf pd_2 rfl) rfl (by show 2 * 0 + _ ≤ _; exact Nat.le_of_eq rfl) (hb hby at_86) (fun _ _ => ⟨rfl, e_127, (by decide : 8 + 0 ≤ _), (by decide : 113 + 0 ≤ _)⟩)
    dsimp only [Pt.U, Pt.locs, Pt.cells, Pt.slots] at X_128 l_128 y_128 z_128 st_128 hQ_128
    subst l_128 y_128 z_128
    obtain ⟨h_128, e_128⟩ : ∃ z, T_128.heap = z := ⟨_, rfl⟩
    rw [e_128] at hQ_128
    obtain ⟨Nq_128, K_128, n_128_F_player_b_124, n_128_F_first_b_124, n_128_F_degree_b_124, n_128_F_edges_b_124, n_128_F_partner_b_124, n_128_F_edgeLeft_b_124, n_128_F_slotPlus1_b_124, n_128_F_slots_b_124, n_128_F_edgeCount_b_124, n_128_A_sp_125, rfl⟩ := hQ_128
    replace Nf := Fr.app Nf Nq_128
    replace E_b_124 := E_b_124.keep K_128
    clear F_player_b_124
    clear F_first_b_124
    clear F_degree_b_124
    clear F_edges_b_124
    clear F_partner_b_124
    clear F_edgeLeft_b_124
    clear F_slotPlus1_b_124
    clear F_slots_b_124
    clear F_edgeCount_b_124
    replace A_pl_125 := A_pl_125.keep K_128 (ninS (Ne.symm ne_b_124_pl_125) (ninS ne_pl_125_sp_125 nin0))
    replace A_fi_125 := A_fi_125.keep K_128 (ninS (Ne.symm ne_b_124_fi_125) (ninS ne_fi_125_sp_125 nin0))
    replace A_de_125 := A_de_125.keep K_128 (ninS (Ne.symm ne_b_124_de_125) (ninS ne_de_125_sp_125 nin0))
    replace A_ed_125 := A_ed_125.keep K_128 (ninS (Ne.symm ne_b_124_ed_125) (ninS ne_ed_125_sp_125 nin0))
    replace A_el_125 := A_el_125.keep K_128 (ninS (Ne.symm ne_b_124_el_125) (ninS ne_el_125_sp_125 nin0))
    clear A_sp_125
    replace A_pa_125 := A_pa_125.keep K_128 (ninS (Ne.symm ne_b_124_pa_125) (ninS ne_pa_125_sp_125 nin0))
    replace lt_b_124 := Nat.lt_of_lt_of_le lt_b_124 K_128.1
    replace lt_pl_125 := Nat.lt_of_lt_of_le lt_pl_125 K_128.1
    replace lt_fi_125 := Nat.lt_of_lt_of_le lt_fi_125 K_128.1
    replace lt_de_125 := Nat.lt_of_lt_of_le lt_de_125 K_128.1
    replace lt_ed_125 := Nat.lt_of_lt_of_le lt_ed_125 K_128.1
    replace lt_pa_125 := Nat.lt_of_lt_of_le lt_pa_125 K_128.1
    replace lt_el_125 := Nat.lt_of_lt_of_le lt_el_125 K_128.1
    replace lt_sp_125 := Nat.lt_of_lt_of_le lt_sp_125 K_128.1
    replace Zs := Nat.le_trans Zs K_128.1
    have F_player_b_124 := n_128_F_player_b_124
    have F_first_b_124 := n_128_F_first_b_124
    have F_degree_b_124 := n_128_F_degree_b_124
    have F_edges_b_124 := n_128_F_edges_b_124
    have F_partner_b_124 := n_128_F_partner_b_124
    have F_edgeLeft_b_124 := n_128_F_edgeLeft_b_124
    have F_slotPlus1_b_124 := n_128_F_slotPlus1_b_124
    have F_slots_b_124 := n_128_F_slots_b_124
    have F_edgeCount_b_124 := n_128_F_edgeCount_b_124
    have A_sp_125 := n_128_A_sp_125
    refine Win.come st_128 ?_
    clear st_128 Nq_128 X_127 e_127 K_128
    show Win p.tables e below _ (T_128.setTop (mkF m 89 #[.val (.int p0), .val (.int p1), .val (.int p2), .val (.int p3), .val (.int p4), .val (.int p5), .val (.int xx), .val (.int yy), .val (.int (1 : Int32)), .val (.int zz), .val (.ref b_124), .unset] []))
    have eg : (updF (updF (fun _ => 0) (xx).toInt (1 : Int32)) (((updF (fun _ => 0) (0 : Int) xx) (0 : Int))).toInt (0 : Int32)) = (fun _ => (0 : Int32)) := by
      rw [updF_hit]
      exact own_clr1 _ _
    rw [eg] at A_sp_125
    refine s_aload (pc' := 91) X_128.here hx (hb hby at_89) rfl rfl rfl ?_
    obtain ⟨cq_129, kq_129, q_129a, q_129b, q_129c⟩ := isOf hZ e_128 E_b_124
    obtain ⟨_, _, ⟨T_129, L_129, k_129, n_129⟩, -, X_129, ⟨Lc_129, hQ_129, l_129, y_129, z_129⟩, st_129⟩ := X_128.virtualBack hx (y := (⟨"com/example/nearstable/nearstable/maximal/Players", "slots", "()I"⟩ : MethodName)) (z := (⟨"com/example/nearstable/nearstable/maximal/Players", "slots", "()I"⟩ : MethodName)) hown (mvT hZ (hw _ (List.mem_of_getElem? (i := 35) rfl))) (mvT hZ (hw _ (List.mem_of_getElem? (i := 36) rfl))) (notFace_of_selects (args := #[]) (mvT hZ (hw _ (List.mem_of_getElem? (i := 38) rfl)))) (mvT hZ (hw _ (List.mem_of_getElem? (i := 38) rfl))) (mvT hZ (hw _ (List.mem_of_getElem? (i := 37) rfl))) (by decide) (backOf (W := 0) (rm4 l Z a0 hw [] b_124 (0 : Int32) h_128 n0 Zs F_slots_b_124) hZ (hw _ (List.mem_of_getElem? (i := 39) rfl)) (hw _ (List.mem_of_getElem? (i := 3) rfl)) (by decide) (by decide)) q_129a q_129c (g := (mkF m 91 #[.val (.int p0), .val (.int p1), .val (.int p2), .val (.int p3), .val (.int p4), .val (.int p5), .val (.int xx), .val (.int yy), .val (.int (1 : Int32)), .val (.int zz), .val (.ref b_124), .unset] [(.ref b_124)])) rfl (by rw [hml]; rfl) (Steps.refl _) (argsL := []) (rest := []) (lenOf pd_3 rfl) rfl (by show 2 * 0 + _ ≤ _; exact Nat.le_of_eq rfl) (hb hby at_91) (fun _ _ => ⟨rfl, e_128, (by decide : 8 + 0 ≤ _), (by decide : 113 + 0 ≤ _)⟩)
    dsimp only [Pt.U, Pt.locs, Pt.cells, Pt.slots] at X_129 l_129 y_129 z_129 st_129 hQ_129
    subst l_129 y_129 z_129
    obtain ⟨Nq_129, e_129, rfl⟩ := hQ_129
    replace Nf := Fr.app Nf Nq_129
    refine Win.come st_129 ?_
    clear st_129 Nq_129 X_128 e_128
    show Win p.tables e below _ (T_129.setTop (mkF m 94 #[.val (.int p0), .val (.int p1), .val (.int p2), .val (.int p3), .val (.int p4), .val (.int p5), .val (.int xx), .val (.int yy), .val (.int (1 : Int32)), .val (.int zz), .val (.ref b_124), .unset] [(.int (0 : Int32))]))
    refine s_ifNo (pc' := 97) X_129.here hx (hb hby at_94) rfl ((if0 _ _).trans (teqI (x := (0 : Int32)) (y := (0 : Int32)) (by decide)).2) ?_
    refine s_aload (pc' := 99) X_129.here hx (hb hby at_97) rfl rfl rfl ?_
    refine s_iload (pc' := 101) X_129.here hx (hb hby at_99) rfl rfl ?_
    obtain ⟨cq_130, kq_130, q_130a, q_130b, q_130c⟩ := isOf hZ e_129 E_b_124
    obtain ⟨_, _, ⟨T_130, L_130, k_130, n_130⟩, -, X_130, ⟨Lc_130, hQ_130, l_130, y_130, z_130⟩, st_130⟩ := X_129.virtualBack hx (y := (⟨"com/example/nearstable/nearstable/maximal/Players", "slot", "(I)I"⟩ : MethodName)) (z := (⟨"com/example/nearstable/nearstable/maximal/Players", "slot", "(I)I"⟩ : MethodName)) hown (mvT hZ (hw _ (List.mem_of_getElem? (i := 40) rfl))) (mvT hZ (hw _ (List.mem_of_getElem? (i := 41) rfl))) (notFace_of_selects (args := #[]) (mvT hZ (hw _ (List.mem_of_getElem? (i := 43) rfl)))) (mvT hZ (hw _ (List.mem_of_getElem? (i := 43) rfl))) (mvT hZ (hw _ (List.mem_of_getElem? (i := 42) rfl))) (by decide) (backOf (W := 0) (rm5 l Z a0 hw [] b_124 xx sp_125 (fun _ => 0) h_128 n0 Zs F_slotPlus1_b_124 A_sp_125 (by omega)) hZ (hw _ (List.mem_of_getElem? (i := 44) rfl)) (hw _ (List.mem_of_getElem? (i := 3) rfl)) (by decide) (by decide)) q_130a q_130c (g := (mkF m 101 #[.val (.int p0), .val (.int p1), .val (.int p2), .val (.int p3), .val (.int p4), .val (.int p5), .val (.int xx), .val (.int yy), .val (.int (1 : Int32)), .val (.int zz), .val (.ref b_124), .unset] [(.int xx), (.ref b_124)])) rfl (by rw [hml]; rfl) (Steps.refl _) (argsL := [(.int xx)]) (rest := []) (lenOf pd_0 rfl) rfl (by show 2 * 0 + _ ≤ _; exact Nat.le_of_eq rfl) (hb hby at_101) (fun _ _ => ⟨rfl, e_129, (by decide : 8 + 0 ≤ _), (by decide : 113 + 0 ≤ _)⟩)
    dsimp only [Pt.U, Pt.locs, Pt.cells, Pt.slots] at X_130 l_130 y_130 z_130 st_130 hQ_130
    subst l_130 y_130 z_130
    obtain ⟨Nq_130, e_130, rfl⟩ := hQ_130
    replace Nf := Fr.app Nf Nq_130
    refine Win.come st_130 ?_
    clear st_130 Nq_130 X_129 e_129
    show Win p.tables e below _ (T_130.setTop (mkF m 104 #[.val (.int p0), .val (.int p1), .val (.int p2), .val (.int p3), .val (.int p4), .val (.int p5), .val (.int xx), .val (.int yy), .val (.int (1 : Int32)), .val (.int zz), .val (.ref b_124), .unset] [(.int (((fun _ => 0) (xx).toInt) - (1 : Int32)))]))
    refine s_iconst (pc' := 105) (z := (-1 : Int32)) X_130.here hx (hb hby at_104) rfl rfl ?_
    by_cases hc105 : ((((fun _ => 0) (xx).toInt) - (1 : Int32))).toInt = (-1 : Int)
    · skip
      refine s_icmpNo (pc' := 108) X_130.here hx (hb hby at_105) rfl (teqI (x := (((fun _ => 0) (xx).toInt) - (1 : Int32))) (y := (-1 : Int32)) hc105).2 ?_
      refine s_aload (pc' := 110) X_130.here hx (hb hby at_108) rfl rfl rfl ?_
      refine s_iload (pc' := 112) X_130.here hx (hb hby at_110) rfl rfl ?_
      obtain ⟨cq_131, kq_131, q_131a, q_131b, q_131c⟩ := isOf hZ e_130 E_b_124
      obtain ⟨_, _, ⟨T_131, L_131, k_131, n_131⟩, -, X_131, ⟨Lc_131, hQ_131, l_131, y_131, z_131⟩, st_131⟩ := X_130.virtualBack hx (y := (⟨"com/example/nearstable/nearstable/maximal/Players", "slot", "(I)I"⟩ : MethodName)) (z := (⟨"com/example/nearstable/nearstable/maximal/Players", "slot", "(I)I"⟩ : MethodName)) hown (mvT hZ (hw _ (List.mem_of_getElem? (i := 40) rfl))) (mvT hZ (hw _ (List.mem_of_getElem? (i := 41) rfl))) (notFace_of_selects (args := #[]) (mvT hZ (hw _ (List.mem_of_getElem? (i := 43) rfl)))) (mvT hZ (hw _ (List.mem_of_getElem? (i := 43) rfl))) (mvT hZ (hw _ (List.mem_of_getElem? (i := 42) rfl))) (by decide) (backOf (W := 0) (rm5 l Z a0 hw [] b_124 yy sp_125 (fun _ => 0) h_128 n0 Zs F_slotPlus1_b_124 A_sp_125 (by omega)) hZ (hw _ (List.mem_of_getElem? (i := 44) rfl)) (hw _ (List.mem_of_getElem? (i := 3) rfl)) (by decide) (by decide)) q_131a q_131c (g := (mkF m 112 #[.val (.int p0), .val (.int p1), .val (.int p2), .val (.int p3), .val (.int p4), .val (.int p5), .val (.int xx), .val (.int yy), .val (.int (1 : Int32)), .val (.int zz), .val (.ref b_124), .unset] [(.int yy), (.ref b_124)])) rfl (by rw [hml]; rfl) (Steps.refl _) (argsL := [(.int yy)]) (rest := []) (lenOf pd_0 rfl) rfl (by show 2 * 0 + _ ≤ _; exact Nat.le_of_eq rfl) (hb hby at_112) (fun _ _ => ⟨rfl, e_130, (by decide : 8 + 0 ≤ _), (by decide : 113 + 0 ≤ _)⟩)
      dsimp only [Pt.U, Pt.locs, Pt.cells, Pt.slots] at X_131 l_131 y_131 z_131 st_131 hQ_131
      subst l_131 y_131 z_131
      obtain ⟨Nq_131, e_131, rfl⟩ := hQ_131
      replace Nf := Fr.app Nf Nq_131
      refine Win.come st_131 ?_
      clear st_131 Nq_131 X_130 e_130
      show Win p.tables e below _ (T_131.setTop (mkF m 115 #[.val (.int p0), .val (.int p1), .val (.int p2), .val (.int p3), .val (.int p4), .val (.int p5), .val (.int xx), .val (.int yy), .val (.int (1 : Int32)), .val (.int zz), .val (.ref b_124), .unset] [(.int (((fun _ => 0) (yy).toInt) - (1 : Int32)))]))
      refine s_iconst (pc' := 116) (z := (-1 : Int32)) X_131.here hx (hb hby at_115) rfl rfl ?_
      by_cases hc116 : ((((fun _ => 0) (yy).toInt) - (1 : Int32))).toInt = (-1 : Int)
      · skip
        refine s_icmpNo (pc' := 119) X_131.here hx (hb hby at_116) rfl (teqI (x := (((fun _ => 0) (yy).toInt) - (1 : Int32))) (y := (-1 : Int32)) hc116).2 ?_
        refine s_iconst (pc' := 120) (z := (1 : Int32)) X_131.here hx (hb hby at_119) rfl rfl ?_
        refine s_goto (pc' := 124) X_131.here hx (hb hby at_120) (by decide) (by decide) ?_
        refine s_istore (pc' := 126) (l' := #[.val (.int p0), .val (.int p1), .val (.int p2), .val (.int p3), .val (.int p4), .val (.int p5), .val (.int xx), .val (.int yy), .val (.int (1 : Int32)), .val (.int zz), .val (.ref b_124), .val (.int (1 : Int32))]) X_131.here hx (hb hby at_124) rfl rfl ?_
        refine s_aload (pc' := 128) X_131.here hx (hb hby at_126) rfl rfl rfl ?_
        refine s_iload (pc' := 130) X_131.here hx (hb hby at_128) rfl rfl ?_
        refine s_iload (pc' := 132) X_131.here hx (hb hby at_130) rfl rfl ?_
        obtain ⟨cq_132, kq_132, q_132a, q_132b, q_132c⟩ := isOf hZ e_131 E_b_124
        obtain ⟨_, _, ⟨T_132, L_132, k_132, n_132⟩, -, X_132, ⟨Lc_132, hQ_132, l_132, y_132, z_132⟩, st_132⟩ := X_131.virtualBack hx (y := (⟨"com/example/nearstable/nearstable/maximal/Players", "add", "(II)V"⟩ : MethodName)) (z := (⟨"com/example/nearstable/nearstable/maximal/Players", "add", "(II)V"⟩ : MethodName)) hown (mvT hZ (hw _ (List.mem_of_getElem? (i := 45) rfl))) (mvT hZ (hw _ (List.mem_of_getElem? (i := 46) rfl))) (notFace_of_selects (args := #[]) (mvT hZ (hw _ (List.mem_of_getElem? (i := 48) rfl)))) (mvT hZ (hw _ (List.mem_of_getElem? (i := 48) rfl))) (mvT hZ (hw _ (List.mem_of_getElem? (i := 47) rfl))) (by decide) (backOf (W := 0) (rm6_0 l Z a0 hw [] b_124 zz p4 pl_125 fi_125 de_125 ed_125 pa_125 el_125 sp_125 (updF (fun _ => 0) (0 : Int) xx) (updF (fun _ => 0) (0 : Int) (0 : Int32)) (updF (updF (fun _ => 0) (0 : Int) (0 : Int32)) (0 : Int) ((updF (fun _ => 0) (0 : Int) (0 : Int32)) (0 : Int) + (1 : Int32))) (updF (fun _ => 0) (0 : Int) p2) (updF (updF (fun _ => 0) (0 : Int) (0 : Int32)) (0 : Int) (p2 ||| (1 : Int32))) (updF (fun _ => 0) (0 : Int) (0 : Int32)) (fun _ => 0) h_128 n0 Zs E_b_124 F_player_b_124 F_first_b_124 F_degree_b_124 F_edges_b_124 F_partner_b_124 F_edgeLeft_b_124 F_slotPlus1_b_124 F_slots_b_124 F_edgeCount_b_124 A_pl_125 A_fi_125 A_de_125 A_ed_125 A_pa_125 A_el_125 A_sp_125 g_b_124 g_pl_125 g_fi_125 g_de_125 g_ed_125 g_pa_125 g_el_125 g_sp_125 ne_b_124_pl_125 ne_b_124_fi_125 ne_b_124_de_125 ne_b_124_ed_125 ne_b_124_pa_125 ne_b_124_el_125 ne_b_124_sp_125 ne_pl_125_fi_125 ne_pl_125_de_125 ne_pl_125_ed_125 ne_pl_125_pa_125 ne_pl_125_el_125 ne_pl_125_sp_125 ne_fi_125_de_125 ne_fi_125_ed_125 ne_fi_125_pa_125 ne_fi_125_el_125 ne_fi_125_sp_125 ne_de_125_ed_125 ne_de_125_pa_125 ne_de_125_el_125 ne_de_125_sp_125 ne_ed_125_pa_125 ne_ed_125_el_125 ne_ed_125_sp_125 ne_pa_125_el_125 ne_pa_125_sp_125 ne_el_125_sp_125 (by omega) rfl) hZ (hw _ (List.mem_of_getElem? (i := 49) rfl)) (hw _ (List.mem_of_getElem? (i := 3) rfl)) (by decide) (by decide)) q_132a q_132c (g := (mkF m 132 #[.val (.int p0), .val (.int p1), .val (.int p2), .val (.int p3), .val (.int p4), .val (.int p5), .val (.int xx), .val (.int yy), .val (.int (1 : Int32)), .val (.int zz), .val (.ref b_124), .val (.int (1 : Int32))] [(.int p4), (.int zz), (.ref b_124)])) rfl (by rw [hml]; rfl) (Steps.refl _) (argsL := [(.int zz), (.int p4)]) (rest := []) (lenOf pd_4 rfl) rfl (by show 2 * 0 + _ ≤ _; exact Nat.le_of_eq rfl) (hb hby at_132) (fun _ _ => ⟨rfl, e_131, (by decide : 8 + 0 ≤ _), (by decide : 113 + 0 ≤ _)⟩)
        dsimp only [Pt.U, Pt.locs, Pt.cells, Pt.slots] at X_132 l_132 y_132 z_132 st_132 hQ_132
        subst l_132 y_132 z_132
        obtain ⟨h_132, e_132⟩ : ∃ z, T_132.heap = z := ⟨_, rfl⟩
        rw [e_132] at hQ_132
        obtain ⟨Nq_132, K_132, n_132_F_player_b_124, n_132_F_first_b_124, n_132_F_degree_b_124, n_132_F_edges_b_124, n_132_F_partner_b_124, n_132_F_edgeLeft_b_124, n_132_F_slotPlus1_b_124, n_132_F_slots_b_124, n_132_F_edgeCount_b_124, n_132_A_pl_125, n_132_A_fi_125, n_132_A_de_125, n_132_A_ed_125, n_132_A_pa_125, n_132_A_el_125, n_132_A_sp_125, rfl⟩ := hQ_132
        replace Nf := Fr.app Nf Nq_132
        replace E_b_124 := E_b_124.keep K_132
        clear A_pl_125
        clear A_fi_125
        clear A_de_125
        clear A_ed_125
        clear A_el_125
        clear A_pa_125
        clear F_player_b_124
        clear F_first_b_124
        clear F_degree_b_124
        clear F_edges_b_124
        clear F_partner_b_124
        clear F_edgeLeft_b_124
        clear F_slotPlus1_b_124
        clear F_slots_b_124
        clear F_edgeCount_b_124
        clear A_sp_125
        replace lt_b_124 := Nat.lt_of_lt_of_le lt_b_124 K_132.1
        replace lt_pl_125 := Nat.lt_of_lt_of_le lt_pl_125 K_132.1
        replace lt_fi_125 := Nat.lt_of_lt_of_le lt_fi_125 K_132.1
        replace lt_de_125 := Nat.lt_of_lt_of_le lt_de_125 K_132.1
        replace lt_ed_125 := Nat.lt_of_lt_of_le lt_ed_125 K_132.1
        replace lt_pa_125 := Nat.lt_of_lt_of_le lt_pa_125 K_132.1
        replace lt_el_125 := Nat.lt_of_lt_of_le lt_el_125 K_132.1
        replace lt_sp_125 := Nat.lt_of_lt_of_le lt_sp_125 K_132.1
        replace Zs := Nat.le_trans Zs K_132.1
        have F_player_b_124 := n_132_F_player_b_124
        have F_first_b_124 := n_132_F_first_b_124
        have F_degree_b_124 := n_132_F_degree_b_124
        have F_edges_b_124 := n_132_F_edges_b_124
        have F_partner_b_124 := n_132_F_partner_b_124
        have F_edgeLeft_b_124 := n_132_F_edgeLeft_b_124
        have F_slotPlus1_b_124 := n_132_F_slotPlus1_b_124
        have F_slots_b_124 := n_132_F_slots_b_124
        have F_edgeCount_b_124 := n_132_F_edgeCount_b_124
        have A_pl_125 := n_132_A_pl_125
        have A_fi_125 := n_132_A_fi_125
        have A_de_125 := n_132_A_de_125
        have A_ed_125 := n_132_A_ed_125
        have A_pa_125 := n_132_A_pa_125
        have A_el_125 := n_132_A_el_125
        have A_sp_125 := n_132_A_sp_125
        refine Win.come st_132 ?_
        clear st_132 Nq_132 X_131 e_131 K_132
        show Win p.tables e below _ (T_132.setTop (mkF m 135 #[.val (.int p0), .val (.int p1), .val (.int p2), .val (.int p3), .val (.int p4), .val (.int p5), .val (.int xx), .val (.int yy), .val (.int (1 : Int32)), .val (.int zz), .val (.ref b_124), .val (.int (1 : Int32))] []))
        refine s_iload (pc' := 137) X_132.here hx (hb hby at_135) rfl rfl ?_
        refine s_ifNo (pc' := 140) X_132.here hx (hb hby at_137) rfl ((if0 _ _).trans (feqI (x := (1 : Int32)) (y := (0 : Int32)) (by decide)).1) ?_
        refine s_aload (pc' := 142) X_132.here hx (hb hby at_140) rfl rfl rfl ?_
        obtain ⟨cq_133, kq_133, q_133a, q_133b, q_133c⟩ := isOf hZ e_132 E_b_124
        obtain ⟨_, _, ⟨T_133, L_133, k_133, n_133⟩, -, X_133, ⟨Lc_133, hQ_133, l_133, y_133, z_133⟩, st_133⟩ := X_132.virtualBack hx (y := (⟨"com/example/nearstable/nearstable/maximal/Players", "slots", "()I"⟩ : MethodName)) (z := (⟨"com/example/nearstable/nearstable/maximal/Players", "slots", "()I"⟩ : MethodName)) hown (mvT hZ (hw _ (List.mem_of_getElem? (i := 35) rfl))) (mvT hZ (hw _ (List.mem_of_getElem? (i := 36) rfl))) (notFace_of_selects (args := #[]) (mvT hZ (hw _ (List.mem_of_getElem? (i := 38) rfl)))) (mvT hZ (hw _ (List.mem_of_getElem? (i := 38) rfl))) (mvT hZ (hw _ (List.mem_of_getElem? (i := 37) rfl))) (by decide) (backOf (W := 0) (rm4 l Z a0 hw [] b_124 (1 : Int32) h_132 n0 Zs F_slots_b_124) hZ (hw _ (List.mem_of_getElem? (i := 39) rfl)) (hw _ (List.mem_of_getElem? (i := 3) rfl)) (by decide) (by decide)) q_133a q_133c (g := (mkF m 142 #[.val (.int p0), .val (.int p1), .val (.int p2), .val (.int p3), .val (.int p4), .val (.int p5), .val (.int xx), .val (.int yy), .val (.int (1 : Int32)), .val (.int zz), .val (.ref b_124), .val (.int (1 : Int32))] [(.ref b_124)])) rfl (by rw [hml]; rfl) (Steps.refl _) (argsL := []) (rest := []) (lenOf pd_3 rfl) rfl (by show 2 * 0 + _ ≤ _; exact Nat.le_of_eq rfl) (hb hby at_142) (fun _ _ => ⟨rfl, e_132, (by decide : 8 + 0 ≤ _), (by decide : 113 + 0 ≤ _)⟩)
        dsimp only [Pt.U, Pt.locs, Pt.cells, Pt.slots] at X_133 l_133 y_133 z_133 st_133 hQ_133
        subst l_133 y_133 z_133
        obtain ⟨Nq_133, e_133, rfl⟩ := hQ_133
        replace Nf := Fr.app Nf Nq_133
        refine Win.come st_133 ?_
        clear st_133 Nq_133 X_132 e_132
        show Win p.tables e below _ (T_133.setTop (mkF m 145 #[.val (.int p0), .val (.int p1), .val (.int p2), .val (.int p3), .val (.int p4), .val (.int p5), .val (.int xx), .val (.int yy), .val (.int (1 : Int32)), .val (.int zz), .val (.ref b_124), .val (.int (1 : Int32))] [(.int (1 : Int32))]))
        refine s_iconst (pc' := 146) (z := (1 : Int32)) X_133.here hx (hb hby at_145) rfl rfl ?_
        refine s_icmpNo (pc' := 149) X_133.here hx (hb hby at_146) rfl (teqI (x := (1 : Int32)) (y := (1 : Int32)) (by decide)).2 ?_
        refine s_aload (pc' := 151) X_133.here hx (hb hby at_149) rfl rfl rfl ?_
        refine s_iload (pc' := 153) X_133.here hx (hb hby at_151) rfl rfl ?_
        obtain ⟨cq_134, kq_134, q_134a, q_134b, q_134c⟩ := isOf hZ e_133 E_b_124
        obtain ⟨_, _, ⟨T_134, L_134, k_134, n_134⟩, -, X_134, ⟨Lc_134, hQ_134, l_134, y_134, z_134⟩, st_134⟩ := X_133.virtualBack hx (y := (⟨"com/example/nearstable/nearstable/maximal/Players", "slot", "(I)I"⟩ : MethodName)) (z := (⟨"com/example/nearstable/nearstable/maximal/Players", "slot", "(I)I"⟩ : MethodName)) hown (mvT hZ (hw _ (List.mem_of_getElem? (i := 40) rfl))) (mvT hZ (hw _ (List.mem_of_getElem? (i := 41) rfl))) (notFace_of_selects (args := #[]) (mvT hZ (hw _ (List.mem_of_getElem? (i := 43) rfl)))) (mvT hZ (hw _ (List.mem_of_getElem? (i := 43) rfl))) (mvT hZ (hw _ (List.mem_of_getElem? (i := 42) rfl))) (by decide) (backOf (W := 0) (rm5 l Z a0 hw [] b_124 zz sp_125 (updF (fun _ => 0) (zz).toInt (1 : Int32)) h_132 n0 Zs F_slotPlus1_b_124 A_sp_125 (by omega)) hZ (hw _ (List.mem_of_getElem? (i := 44) rfl)) (hw _ (List.mem_of_getElem? (i := 3) rfl)) (by decide) (by decide)) q_134a q_134c (g := (mkF m 153 #[.val (.int p0), .val (.int p1), .val (.int p2), .val (.int p3), .val (.int p4), .val (.int p5), .val (.int xx), .val (.int yy), .val (.int (1 : Int32)), .val (.int zz), .val (.ref b_124), .val (.int (1 : Int32))] [(.int zz), (.ref b_124)])) rfl (by rw [hml]; rfl) (Steps.refl _) (argsL := [(.int zz)]) (rest := []) (lenOf pd_0 rfl) rfl (by show 2 * 0 + _ ≤ _; exact Nat.le_of_eq rfl) (hb hby at_153) (fun _ _ => ⟨rfl, e_133, (by decide : 8 + 0 ≤ _), (by decide : 113 + 0 ≤ _)⟩)
        dsimp only [Pt.U, Pt.locs, Pt.cells, Pt.slots] at X_134 l_134 y_134 z_134 st_134 hQ_134
        subst l_134 y_134 z_134
        obtain ⟨Nq_134, e_134, rfl⟩ := hQ_134
        replace Nf := Fr.app Nf Nq_134
        refine Win.come st_134 ?_
        clear st_134 Nq_134 X_133 e_133
        show Win p.tables e below _ (T_134.setTop (mkF m 156 #[.val (.int p0), .val (.int p1), .val (.int p2), .val (.int p3), .val (.int p4), .val (.int p5), .val (.int xx), .val (.int yy), .val (.int (1 : Int32)), .val (.int zz), .val (.ref b_124), .val (.int (1 : Int32))] [(.int (((updF (fun _ => 0) (zz).toInt (1 : Int32)) (zz).toInt) - (1 : Int32)))]))
        by_cases hc156 : ((((updF (fun _ => 0) (zz).toInt (1 : Int32)) (zz).toInt) - (1 : Int32))).toInt = (0 : Int)
        · skip
          refine s_ifNo (pc' := 159) X_134.here hx (hb hby at_156) rfl ((if0 _ _).trans (teqI (x := (((updF (fun _ => 0) (zz).toInt (1 : Int32)) (zz).toInt) - (1 : Int32))) (y := (0 : Int32)) hc156).2) ?_
          refine s_aload (pc' := 161) X_134.here hx (hb hby at_159) rfl rfl rfl ?_
          refine s_iconst (pc' := 162) (z := (0 : Int32)) X_134.here hx (hb hby at_161) rfl rfl ?_
          refine s_iconst (pc' := 163) (z := (0 : Int32)) X_134.here hx (hb hby at_162) rfl rfl ?_
          obtain ⟨cq_135, kq_135, q_135a, q_135b, q_135c⟩ := isOf hZ e_134 E_b_124
          obtain ⟨_, _, ⟨T_135, L_135, k_135, n_135⟩, -, X_135, ⟨Lc_135, hQ_135, l_135, y_135, z_135⟩, st_135⟩ := X_134.virtualBack hx (y := (⟨"com/example/nearstable/nearstable/maximal/Players", "edge", "(II)I"⟩ : MethodName)) (z := (⟨"com/example/nearstable/nearstable/maximal/Players", "edge", "(II)I"⟩ : MethodName)) hown (mvT hZ (hw _ (List.mem_of_getElem? (i := 54) rfl))) (mvT hZ (hw _ (List.mem_of_getElem? (i := 55) rfl))) (notFace_of_selects (args := #[]) (mvT hZ (hw _ (List.mem_of_getElem? (i := 57) rfl)))) (mvT hZ (hw _ (List.mem_of_getElem? (i := 57) rfl))) (mvT hZ (hw _ (List.mem_of_getElem? (i := 56) rfl))) (by decide) (backOf (W := 0) (rm8 l Z a0 hw [] b_124 fi_125 ed_125 (updF (updF (fun _ => 0) (0 : Int) (0 : Int32)) (0 : Int) (0 : Int32)) (updF (updF (fun _ => 0) (0 : Int) p2) (0 : Int) p4) h_132 n0 Zs F_first_b_124 F_edges_b_124 A_fi_125 A_ed_125 (updF_hit _ _ _)) hZ (hw _ (List.mem_of_getElem? (i := 58) rfl)) (hw _ (List.mem_of_getElem? (i := 3) rfl)) (by decide) (by decide)) q_135a q_135c (g := (mkF m 163 #[.val (.int p0), .val (.int p1), .val (.int p2), .val (.int p3), .val (.int p4), .val (.int p5), .val (.int xx), .val (.int yy), .val (.int (1 : Int32)), .val (.int zz), .val (.ref b_124), .val (.int (1 : Int32))] [(.int (0 : Int32)), (.int (0 : Int32)), (.ref b_124)])) rfl (by rw [hml]; rfl) (Steps.refl _) (argsL := [(.int (0 : Int32)), (.int (0 : Int32))]) (rest := []) (lenOf pd_5 rfl) rfl (by show 2 * 0 + _ ≤ _; exact Nat.le_of_eq rfl) (hb hby at_163) (fun _ _ => ⟨rfl, e_134, (by decide : 8 + 0 ≤ _), (by decide : 113 + 0 ≤ _)⟩)
          dsimp only [Pt.U, Pt.locs, Pt.cells, Pt.slots] at X_135 l_135 y_135 z_135 st_135 hQ_135
          subst l_135 y_135 z_135
          obtain ⟨Nq_135, e_135, r, rfl, hr⟩ := hQ_135
          replace Nf := Fr.app Nf Nq_135
          refine Win.come st_135 ?_
          clear st_135 Nq_135 X_134 e_134
          show Win p.tables e below _ (T_135.setTop (mkF m 166 #[.val (.int p0), .val (.int p1), .val (.int p2), .val (.int p3), .val (.int p4), .val (.int p5), .val (.int xx), .val (.int yy), .val (.int (1 : Int32)), .val (.int zz), .val (.ref b_124), .val (.int (1 : Int32))] [(.int r)]))
          refine s_iload (pc' := 168) X_135.here hx (hb hby at_166) rfl rfl ?_
          by_cases hc168 : (r).toInt = (p4).toInt
          · skip
            refine s_icmpNo (pc' := 171) X_135.here hx (hb hby at_168) rfl (teqI (x := r) (y := p4) hc168).2 ?_
            refine s_aload (pc' := 173) X_135.here hx (hb hby at_171) rfl rfl rfl ?_
            refine s_iconst (pc' := 174) (z := (0 : Int32)) X_135.here hx (hb hby at_173) rfl rfl ?_
            obtain ⟨cq_136, kq_136, q_136a, q_136b, q_136c⟩ := isOf hZ e_135 E_b_124
            obtain ⟨_, _, ⟨T_136, L_136, k_136, n_136⟩, -, X_136, ⟨Lc_136, hQ_136, l_136, y_136, z_136⟩, st_136⟩ := X_135.virtualBack hx (y := (⟨"com/example/nearstable/nearstable/maximal/Players", "partner", "(I)I"⟩ : MethodName)) (z := (⟨"com/example/nearstable/nearstable/maximal/Players", "partner", "(I)I"⟩ : MethodName)) hown (mvT hZ (hw _ (List.mem_of_getElem? (i := 59) rfl))) (mvT hZ (hw _ (List.mem_of_getElem? (i := 60) rfl))) (notFace_of_selects (args := #[]) (mvT hZ (hw _ (List.mem_of_getElem? (i := 62) rfl)))) (mvT hZ (hw _ (List.mem_of_getElem? (i := 62) rfl))) (mvT hZ (hw _ (List.mem_of_getElem? (i := 61) rfl))) (by decide) (backOf (W := 0) (rm9 l Z a0 hw [] b_124 pa_125 (updF (updF (updF (fun _ => 0) (0 : Int) (0 : Int32)) (0 : Int) (p2 ||| (1 : Int32))) (0 : Int) (0 : Int32)) h_132 n0 Zs F_partner_b_124 A_pa_125) hZ (hw _ (List.mem_of_getElem? (i := 63) rfl)) (hw _ (List.mem_of_getElem? (i := 3) rfl)) (by decide) (by decide)) q_136a q_136c (g := (mkF m 174 #[.val (.int p0), .val (.int p1), .val (.int p2), .val (.int p3), .val (.int p4), .val (.int p5), .val (.int xx), .val (.int yy), .val (.int (1 : Int32)), .val (.int zz), .val (.ref b_124), .val (.int (1 : Int32))] [(.int (0 : Int32)), (.ref b_124)])) rfl (by rw [hml]; rfl) (Steps.refl _) (argsL := [(.int (0 : Int32))]) (rest := []) (lenOf pd_0 rfl) rfl (by show 2 * 0 + _ ≤ _; exact Nat.le_of_eq rfl) (hb hby at_174) (fun _ _ => ⟨rfl, e_135, (by decide : 8 + 0 ≤ _), (by decide : 113 + 0 ≤ _)⟩)
            dsimp only [Pt.U, Pt.locs, Pt.cells, Pt.slots] at X_136 l_136 y_136 z_136 st_136 hQ_136
            subst l_136 y_136 z_136
            obtain ⟨Nq_136, e_136, rfl⟩ := hQ_136
            replace Nf := Fr.app Nf Nq_136
            refine Win.come st_136 ?_
            clear st_136 Nq_136 X_135 e_135
            show Win p.tables e below _ (T_136.setTop (mkF m 177 #[.val (.int p0), .val (.int p1), .val (.int p2), .val (.int p3), .val (.int p4), .val (.int p5), .val (.int xx), .val (.int yy), .val (.int (1 : Int32)), .val (.int zz), .val (.ref b_124), .val (.int (1 : Int32))] [(.int ((updF (updF (updF (fun _ => 0) (0 : Int) (0 : Int32)) (0 : Int) (p2 ||| (1 : Int32))) (0 : Int) (0 : Int32)) (0 : Int)))]))
            by_cases hc177 : (((updF (updF (updF (fun _ => 0) (0 : Int) (0 : Int32)) (0 : Int) (p2 ||| (1 : Int32))) (0 : Int) (0 : Int32)) (0 : Int))).toInt = (0 : Int)
            · skip
              refine s_ifNo (pc' := 180) X_136.here hx (hb hby at_177) rfl ((if0 _ _).trans (teqI (x := ((updF (updF (updF (fun _ => 0) (0 : Int) (0 : Int32)) (0 : Int) (p2 ||| (1 : Int32))) (0 : Int) (0 : Int32)) (0 : Int))) (y := (0 : Int32)) hc177).2) ?_
              refine s_iconst (pc' := 181) (z := (1 : Int32)) X_136.here hx (hb hby at_180) rfl rfl ?_
              refine s_goto (pc' := 185) X_136.here hx (hb hby at_181) (by decide) (by decide) ?_
              refine winN X_136 hx hlk e_136 (t := .boolean) Bd.returns (by simp) (hb hby at_185) (by decide) (by decide) (z' := 1) rfl ⟨Nf, rfl⟩
            · skip
              exfalso
              exact hc177 (by rw [updF_hit]; rfl)
          · skip
            exfalso
            exact hc168 (by rw [hr, updF_hit])
        · skip
          exfalso
          exact hc156 (by rw [updF_hit]; rfl)
      · skip
        exfalso
        exact hc116 rfl
    · skip
      exfalso
      exact hc105 rfl
  · skip
    show Win p.tables e below _ (s₁.setTop (mkF m 29 #[.val (.int p0), .val (.int p1), .val (.int p2), .val (.int p3), .val (.int p4), .val (.int p5), .val (.int xx), .val (.int yy), .val (.int (2 : Int32)), .unset, .unset, .unset] []))
    refine s_iload (pc' := 31) X0.here hx (hb hby at_29) rfl rfl ?_
    refine s_bipush (pc' := 33) (z := (7 : Int32)) X0.here hx (hb hby at_31) rfl rfl ?_
    refine s_iand (pc' := 34) X0.here hx (hb hby at_33) rfl ?_
    refine s_istore (pc' := 36) (l' := #[.val (.int p0), .val (.int p1), .val (.int p2), .val (.int p3), .val (.int p4), .val (.int p5), .val (.int xx), .val (.int yy), .val (.int (2 : Int32)), .val (.int (p5 &&& (7 : Int32))), .unset, .unset]) X0.here hx (hb hby at_34) rfl rfl ?_
    generalize hzz : (p5 &&& (7 : Int32)) = zz
    show Win p.tables e below _ (s₁.setTop (mkF m 36 #[.val (.int p0), .val (.int p1), .val (.int p2), .val (.int p3), .val (.int p4), .val (.int p5), .val (.int xx), .val (.int yy), .val (.int (2 : Int32)), .val (.int zz), .unset, .unset] []))
    have bzz : 0 ≤ zz.toInt ∧ zz.toInt ≤ 7 := hzz ▸ c_and p5 7 (by decide)
    obtain ⟨T_137, h_137, X_137, e_137, Ex_137, A_137, D_137, -, st_137⟩ := newO X0 hx hZ hown (hw _ (List.mem_of_getElem? (i := 1) rfl)) (hw _ (List.mem_of_getElem? (i := 2) rfl)) (hw _ (List.mem_of_getElem? (i := 3) rfl)) e0 (g := (mkF m 36 #[.val (.int p0), .val (.int p1), .val (.int p2), .val (.int p3), .val (.int p4), .val (.int p5), .val (.int xx), .val (.int yy), .val (.int (2 : Int32)), .val (.int zz), .unset, .unset] [])) rfl (hb hby at_36) (by decide) (by decide)
    obtain ⟨b_137, g_137⟩ : ∃ z, z = h0.size := ⟨_, rfl⟩
    have g_b_137 : n0 ≤ b_137 := Nat.le_trans Zs (Nat.le_of_eq g_137.symm)
    rw [← g_137] at A_137 D_137 st_137
    replace Zs := Nat.le_trans Zs Ex_137.1
    have E_b_137 := A_137
    have lt_b_137 := E_b_137.lt
    have F_player_b_137 : Fld Z h_137 b_137 "com/example/nearstable/nearstable/maximal/Players" "player" "[I" .null := D_137 (Or.inl (hw _ (List.mem_of_getElem? (i := 12) rfl))) (ty := (.array .int)) (by decide)
    have F_first_b_137 : Fld Z h_137 b_137 "com/example/nearstable/nearstable/maximal/Players" "first" "[I" .null := D_137 (Or.inl (hw _ (List.mem_of_getElem? (i := 14) rfl))) (ty := (.array .int)) (by decide)
    have F_degree_b_137 : Fld Z h_137 b_137 "com/example/nearstable/nearstable/maximal/Players" "degree" "[I" .null := D_137 (Or.inl (hw _ (List.mem_of_getElem? (i := 16) rfl))) (ty := (.array .int)) (by decide)
    have F_edges_b_137 : Fld Z h_137 b_137 "com/example/nearstable/nearstable/maximal/Players" "edges" "[I" .null := D_137 (Or.inl (hw _ (List.mem_of_getElem? (i := 18) rfl))) (ty := (.array .int)) (by decide)
    have F_partner_b_137 : Fld Z h_137 b_137 "com/example/nearstable/nearstable/maximal/Players" "partner" "[I" .null := D_137 (Or.inl (hw _ (List.mem_of_getElem? (i := 20) rfl))) (ty := (.array .int)) (by decide)
    have F_edgeLeft_b_137 : Fld Z h_137 b_137 "com/example/nearstable/nearstable/maximal/Players" "edgeLeft" "[Z" .null := D_137 (Or.inl (hw _ (List.mem_of_getElem? (i := 23) rfl))) (ty := (.array .boolean)) (by decide)
    have F_slotPlus1_b_137 : Fld Z h_137 b_137 "com/example/nearstable/nearstable/maximal/Players" "slotPlus1" "[I" .null := D_137 (Or.inr (hw _ (List.mem_of_getElem? (i := 25) rfl))) (ty := (.array .int)) (by decide)
    have F_slots_b_137 : Fld Z h_137 b_137 "com/example/nearstable/nearstable/maximal/Players" "slots" "I" (.int (0 : Int32)) := D_137 (Or.inl (hw _ (List.mem_of_getElem? (i := 32) rfl))) (ty := .int) (by decide)
    have F_edgeCount_b_137 : Fld Z h_137 b_137 "com/example/nearstable/nearstable/maximal/Players" "edgeCount" "I" (.int (0 : Int32)) := D_137 (Or.inl (hw _ (List.mem_of_getElem? (i := 34) rfl))) (ty := .int) (by decide)
    refine Win.go st_137 ?_
    clear st_137 Ex_137 A_137 D_137 g_137 X0 e0
    show Win p.tables e below _ (T_137.setTop (mkF m 39 #[.val (.int p0), .val (.int p1), .val (.int p2), .val (.int p3), .val (.int p4), .val (.int p5), .val (.int xx), .val (.int yy), .val (.int (2 : Int32)), .val (.int zz), .unset, .unset] [(.ref b_137)]))
    refine s_dup (pc' := 40) X_137.here hx (hb hby at_39) rfl rfl ?_
    refine s_bipush (pc' := 42) (z := (7 : Int32)) X_137.here hx (hb hby at_40) rfl rfl ?_
    obtain ⟨_, _, ⟨T_138, L_138, k_138, n_138⟩, -, X_138, ⟨Lc_138, hQ_138, l_138, y_138, z_138⟩, st_138⟩ := X_137.specialBack hx (y := (⟨"com/example/nearstable/nearstable/maximal/Players", "<init>", "(I)V"⟩ : MethodName)) rfl hown (mvT hZ (hw _ (List.mem_of_getElem? (i := 4) rfl))) (mvT hZ (hw _ (List.mem_of_getElem? (i := 5) rfl))) (mvT hZ (hw _ (List.mem_of_getElem? (i := 6) rfl))) (by decide) (backOf (W := 1) (rm1 l Z a0 hw [] b_137 h_137 n0 Zs E_b_137 F_player_b_137 F_first_b_137 F_degree_b_137 F_edges_b_137 F_partner_b_137 F_edgeLeft_b_137 F_slotPlus1_b_137 F_slots_b_137 F_edgeCount_b_137 g_b_137) hZ (hw _ (List.mem_of_getElem? (i := 6) rfl)) (hw _ (List.mem_of_getElem? (i := 3) rfl)) (by decide) (by decide)) (g := (mkF m 42 #[.val (.int p0), .val (.int p1), .val (.int p2), .val (.int p3), .val (.int p4), .val (.int p5), .val (.int xx), .val (.int yy), .val (.int (2 : Int32)), .val (.int zz), .unset, .unset] [(.int (7 : Int32)), (.ref b_137), (.ref b_137)])) rfl (by rw [hml]; rfl) (Steps.refl _) (a := b_137) (argsL := [(.int (7 : Int32))]) (rest := [(.ref b_137)]) (lenOf pd_1 rfl) rfl (by show 2 * 0 + _ ≤ _; exact Nat.le_of_eq rfl) (hb hby at_42) (fun _ _ => ⟨rfl, e_137, (by decide : 1 + 7 ≤ _), (by decide : 9 + 104 ≤ _)⟩)
    dsimp only [Pt.U, Pt.locs, Pt.cells, Pt.slots] at X_138 l_138 y_138 z_138 st_138 hQ_138
    subst l_138 y_138 z_138
    obtain ⟨h_138, e_138⟩ : ∃ z, T_138.heap = z := ⟨_, rfl⟩
    rw [e_138] at hQ_138
    obtain ⟨Nq_138, K_138, ⟨pl_138, fi_138, de_138, ed_138, pa_138, el_138, sp_138, g_pl_138, so_pl_138, g_fi_138, so_fi_138, g_de_138, so_de_138, g_ed_138, so_ed_138, g_pa_138, so_pa_138, g_el_138, so_el_138, g_sp_138, so_sp_138, ne_pl_138_fi_138, ne_pl_138_de_138, ne_pl_138_ed_138, ne_pl_138_pa_138, ne_pl_138_el_138, ne_pl_138_sp_138, ne_fi_138_de_138, ne_fi_138_ed_138, ne_fi_138_pa_138, ne_fi_138_el_138, ne_fi_138_sp_138, ne_de_138_ed_138, ne_de_138_pa_138, ne_de_138_el_138, ne_de_138_sp_138, ne_ed_138_pa_138, ne_ed_138_el_138, ne_ed_138_sp_138, ne_pa_138_el_138, ne_pa_138_sp_138, ne_el_138_sp_138, n_138_F_player_b_137, n_138_F_first_b_137, n_138_F_degree_b_137, n_138_F_edges_b_137, n_138_F_partner_b_137, n_138_F_edgeLeft_b_137, n_138_F_slotPlus1_b_137, n_138_F_slots_b_137, n_138_F_edgeCount_b_137, n_138_A_pl_138, n_138_A_fi_138, n_138_A_de_138, n_138_A_ed_138, n_138_A_pa_138, n_138_A_el_138, n_138_A_sp_138⟩, rfl⟩ := hQ_138
    replace Nf := Fr.app Nf Nq_138
    have ne_b_137_pl_138 : b_137 ≠ pl_138 := Nat.ne_of_lt (Nat.lt_of_lt_of_le lt_b_137 so_pl_138)
    have ne_b_137_fi_138 : b_137 ≠ fi_138 := Nat.ne_of_lt (Nat.lt_of_lt_of_le lt_b_137 so_fi_138)
    have ne_b_137_de_138 : b_137 ≠ de_138 := Nat.ne_of_lt (Nat.lt_of_lt_of_le lt_b_137 so_de_138)
    have ne_b_137_ed_138 : b_137 ≠ ed_138 := Nat.ne_of_lt (Nat.lt_of_lt_of_le lt_b_137 so_ed_138)
    have ne_b_137_pa_138 : b_137 ≠ pa_138 := Nat.ne_of_lt (Nat.lt_of_lt_of_le lt_b_137 so_pa_138)
    have ne_b_137_el_138 : b_137 ≠ el_138 := Nat.ne_of_lt (Nat.lt_of_lt_of_le lt_b_137 so_el_138)
    have ne_b_137_sp_138 : b_137 ≠ sp_138 := Nat.ne_of_lt (Nat.lt_of_lt_of_le lt_b_137 so_sp_138)
    replace E_b_137 := E_b_137.keep K_138
    clear F_player_b_137
    clear F_first_b_137
    clear F_degree_b_137
    clear F_edges_b_137
    clear F_partner_b_137
    clear F_edgeLeft_b_137
    clear F_slotPlus1_b_137
    clear F_slots_b_137
    clear F_edgeCount_b_137
    replace lt_b_137 := Nat.lt_of_lt_of_le lt_b_137 K_138.1
    replace Zs := Nat.le_trans Zs K_138.1
    have F_player_b_137 := n_138_F_player_b_137
    have F_first_b_137 := n_138_F_first_b_137
    have F_degree_b_137 := n_138_F_degree_b_137
    have F_edges_b_137 := n_138_F_edges_b_137
    have F_partner_b_137 := n_138_F_partner_b_137
    have F_edgeLeft_b_137 := n_138_F_edgeLeft_b_137
    have F_slotPlus1_b_137 := n_138_F_slotPlus1_b_137
    have F_slots_b_137 := n_138_F_slots_b_137
    have F_edgeCount_b_137 := n_138_F_edgeCount_b_137
    have A_pl_138 := n_138_A_pl_138
    have A_fi_138 := n_138_A_fi_138
    have A_de_138 := n_138_A_de_138
    have A_ed_138 := n_138_A_ed_138
    have A_pa_138 := n_138_A_pa_138
    have A_el_138 := n_138_A_el_138
    have A_sp_138 := n_138_A_sp_138
    have lt_pl_138 := A_pl_138.lt
    have lt_fi_138 := A_fi_138.lt
    have lt_de_138 := A_de_138.lt
    have lt_ed_138 := A_ed_138.lt
    have lt_pa_138 := A_pa_138.lt
    have lt_el_138 := A_el_138.lt
    have lt_sp_138 := A_sp_138.lt
    refine Win.come st_138 ?_
    clear st_138 Nq_138 X_137 e_137 K_138
    show Win p.tables e below _ (T_138.setTop (mkF m 45 #[.val (.int p0), .val (.int p1), .val (.int p2), .val (.int p3), .val (.int p4), .val (.int p5), .val (.int xx), .val (.int yy), .val (.int (2 : Int32)), .val (.int zz), .unset, .unset] [(.ref b_137)]))
    refine s_astore (pc' := 47) (l' := #[.val (.int p0), .val (.int p1), .val (.int p2), .val (.int p3), .val (.int p4), .val (.int p5), .val (.int xx), .val (.int yy), .val (.int (2 : Int32)), .val (.int zz), .val (.ref b_137), .unset]) X_138.here hx (hb hby at_45) rfl rfl rfl ?_
    refine s_iload (pc' := 49) X_138.here hx (hb hby at_47) rfl rfl ?_
    refine s_iconst (pc' := 50) (z := (1 : Int32)) X_138.here hx (hb hby at_49) rfl rfl ?_
    refine s_icmpNo (pc' := 53) X_138.here hx (hb hby at_50) rfl (fltI (x := (2 : Int32)) (y := (1 : Int32)) (by decide)).1 ?_
    refine s_aload (pc' := 55) X_138.here hx (hb hby at_53) rfl rfl rfl ?_
    refine s_iload (pc' := 57) X_138.here hx (hb hby at_55) rfl rfl ?_
    refine s_iloadN (pc' := 58) X_138.here hx (hb hby at_57) rfl rfl ?_
    obtain ⟨cq_139, kq_139, q_139a, q_139b, q_139c⟩ := isOf hZ e_138 E_b_137
    obtain ⟨_, _, ⟨T_139, L_139, k_139, n_139⟩, -, X_139, ⟨Lc_139, hQ_139, l_139, y_139, z_139⟩, st_139⟩ := X_138.virtualBack hx (y := (⟨"com/example/nearstable/nearstable/maximal/Players", "add", "(II)V"⟩ : MethodName)) (z := (⟨"com/example/nearstable/nearstable/maximal/Players", "add", "(II)V"⟩ : MethodName)) hown (mvT hZ (hw _ (List.mem_of_getElem? (i := 45) rfl))) (mvT hZ (hw _ (List.mem_of_getElem? (i := 46) rfl))) (notFace_of_selects (args := #[]) (mvT hZ (hw _ (List.mem_of_getElem? (i := 48) rfl)))) (mvT hZ (hw _ (List.mem_of_getElem? (i := 48) rfl))) (mvT hZ (hw _ (List.mem_of_getElem? (i := 47) rfl))) (by decide) (backOf (W := 0) (rm6_0 l Z a0 hw [] b_137 xx p2 pl_138 fi_138 de_138 ed_138 pa_138 el_138 sp_138 (fun _ => 0) (fun _ => 0) (fun _ => 0) (fun _ => 0) (fun _ => 0) (fun _ => 0) (fun _ => 0) h_138 n0 Zs E_b_137 F_player_b_137 F_first_b_137 F_degree_b_137 F_edges_b_137 F_partner_b_137 F_edgeLeft_b_137 F_slotPlus1_b_137 F_slots_b_137 F_edgeCount_b_137 A_pl_138 A_fi_138 A_de_138 A_ed_138 A_pa_138 A_el_138 A_sp_138 g_b_137 g_pl_138 g_fi_138 g_de_138 g_ed_138 g_pa_138 g_el_138 g_sp_138 ne_b_137_pl_138 ne_b_137_fi_138 ne_b_137_de_138 ne_b_137_ed_138 ne_b_137_pa_138 ne_b_137_el_138 ne_b_137_sp_138 ne_pl_138_fi_138 ne_pl_138_de_138 ne_pl_138_ed_138 ne_pl_138_pa_138 ne_pl_138_el_138 ne_pl_138_sp_138 ne_fi_138_de_138 ne_fi_138_ed_138 ne_fi_138_pa_138 ne_fi_138_el_138 ne_fi_138_sp_138 ne_de_138_ed_138 ne_de_138_pa_138 ne_de_138_el_138 ne_de_138_sp_138 ne_ed_138_pa_138 ne_ed_138_el_138 ne_ed_138_sp_138 ne_pa_138_el_138 ne_pa_138_sp_138 ne_el_138_sp_138 (by omega) rfl) hZ (hw _ (List.mem_of_getElem? (i := 49) rfl)) (hw _ (List.mem_of_getElem? (i := 3) rfl)) (by decide) (by decide)) q_139a q_139c (g := (mkF m 58 #[.val (.int p0), .val (.int p1), .val (.int p2), .val (.int p3), .val (.int p4), .val (.int p5), .val (.int xx), .val (.int yy), .val (.int (2 : Int32)), .val (.int zz), .val (.ref b_137), .unset] [(.int p2), (.int xx), (.ref b_137)])) rfl (by rw [hml]; rfl) (Steps.refl _) (argsL := [(.int xx), (.int p2)]) (rest := []) (lenOf pd_4 rfl) rfl (by show 2 * 0 + _ ≤ _; exact Nat.le_of_eq rfl) (hb hby at_58) (fun _ _ => ⟨rfl, e_138, (by decide : 8 + 0 ≤ _), (by decide : 113 + 0 ≤ _)⟩)
    dsimp only [Pt.U, Pt.locs, Pt.cells, Pt.slots] at X_139 l_139 y_139 z_139 st_139 hQ_139
    subst l_139 y_139 z_139
    obtain ⟨h_139, e_139⟩ : ∃ z, T_139.heap = z := ⟨_, rfl⟩
    rw [e_139] at hQ_139
    obtain ⟨Nq_139, K_139, n_139_F_player_b_137, n_139_F_first_b_137, n_139_F_degree_b_137, n_139_F_edges_b_137, n_139_F_partner_b_137, n_139_F_edgeLeft_b_137, n_139_F_slotPlus1_b_137, n_139_F_slots_b_137, n_139_F_edgeCount_b_137, n_139_A_pl_138, n_139_A_fi_138, n_139_A_de_138, n_139_A_ed_138, n_139_A_pa_138, n_139_A_el_138, n_139_A_sp_138, rfl⟩ := hQ_139
    replace Nf := Fr.app Nf Nq_139
    replace E_b_137 := E_b_137.keep K_139
    clear F_player_b_137
    clear F_first_b_137
    clear F_degree_b_137
    clear F_edges_b_137
    clear F_partner_b_137
    clear F_edgeLeft_b_137
    clear F_slotPlus1_b_137
    clear F_slots_b_137
    clear F_edgeCount_b_137
    clear A_pl_138
    clear A_fi_138
    clear A_de_138
    clear A_ed_138
    clear A_pa_138
    clear A_el_138
    clear A_sp_138
    replace lt_b_137 := Nat.lt_of_lt_of_le lt_b_137 K_139.1
    replace lt_pl_138 := Nat.lt_of_lt_of_le lt_pl_138 K_139.1
    replace lt_fi_138 := Nat.lt_of_lt_of_le lt_fi_138 K_139.1
    replace lt_de_138 := Nat.lt_of_lt_of_le lt_de_138 K_139.1
    replace lt_ed_138 := Nat.lt_of_lt_of_le lt_ed_138 K_139.1
    replace lt_pa_138 := Nat.lt_of_lt_of_le lt_pa_138 K_139.1
    replace lt_el_138 := Nat.lt_of_lt_of_le lt_el_138 K_139.1
    replace lt_sp_138 := Nat.lt_of_lt_of_le lt_sp_138 K_139.1
    replace Zs := Nat.le_trans Zs K_139.1
    have F_player_b_137 := n_139_F_player_b_137
    have F_first_b_137 := n_139_F_first_b_137
    have F_degree_b_137 := n_139_F_degree_b_137
    have F_edges_b_137 := n_139_F_edges_b_137
    have F_partner_b_137 := n_139_F_partner_b_137
    have F_edgeLeft_b_137 := n_139_F_edgeLeft_b_137
    have F_slotPlus1_b_137 := n_139_F_slotPlus1_b_137
    have F_slots_b_137 := n_139_F_slots_b_137
    have F_edgeCount_b_137 := n_139_F_edgeCount_b_137
    have A_pl_138 := n_139_A_pl_138
    have A_fi_138 := n_139_A_fi_138
    have A_de_138 := n_139_A_de_138
    have A_ed_138 := n_139_A_ed_138
    have A_pa_138 := n_139_A_pa_138
    have A_el_138 := n_139_A_el_138
    have A_sp_138 := n_139_A_sp_138
    refine Win.come st_139 ?_
    clear st_139 Nq_139 X_138 e_138 K_139
    show Win p.tables e below _ (T_139.setTop (mkF m 61 #[.val (.int p0), .val (.int p1), .val (.int p2), .val (.int p3), .val (.int p4), .val (.int p5), .val (.int xx), .val (.int yy), .val (.int (2 : Int32)), .val (.int zz), .val (.ref b_137), .unset] []))
    refine s_aload (pc' := 63) X_139.here hx (hb hby at_61) rfl rfl rfl ?_
    refine s_iconst (pc' := 64) (z := (0 : Int32)) X_139.here hx (hb hby at_63) rfl rfl ?_
    refine s_iloadN (pc' := 65) X_139.here hx (hb hby at_64) rfl rfl ?_
    refine s_iconst (pc' := 66) (z := (1 : Int32)) X_139.here hx (hb hby at_65) rfl rfl ?_
    refine s_ior (pc' := 67) X_139.here hx (hb hby at_66) rfl ?_
    obtain ⟨cq_140, kq_140, q_140a, q_140b, q_140c⟩ := isOf hZ e_139 E_b_137
    obtain ⟨_, _, ⟨T_140, L_140, k_140, n_140⟩, -, X_140, ⟨Lc_140, hQ_140, l_140, y_140, z_140⟩, st_140⟩ := X_139.virtualBack hx (y := (⟨"com/example/nearstable/nearstable/maximal/Players", "match", "(II)V"⟩ : MethodName)) (z := (⟨"com/example/nearstable/nearstable/maximal/Players", "match", "(II)V"⟩ : MethodName)) hown (mvT hZ (hw _ (List.mem_of_getElem? (i := 64) rfl))) (mvT hZ (hw _ (List.mem_of_getElem? (i := 65) rfl))) (notFace_of_selects (args := #[]) (mvT hZ (hw _ (List.mem_of_getElem? (i := 67) rfl)))) (mvT hZ (hw _ (List.mem_of_getElem? (i := 67) rfl))) (mvT hZ (hw _ (List.mem_of_getElem? (i := 66) rfl))) (by decide) (backOf (W := 0) (rm10 l Z a0 hw [] b_137 (p2 ||| (1 : Int32)) pa_138 (updF (fun _ => 0) (0 : Int) (0 : Int32)) h_139 n0 Zs F_partner_b_137 A_pa_138 g_pa_138 ne_b_137_pa_138) hZ (hw _ (List.mem_of_getElem? (i := 68) rfl)) (hw _ (List.mem_of_getElem? (i := 3) rfl)) (by decide) (by decide)) q_140a q_140c (g := (mkF m 67 #[.val (.int p0), .val (.int p1), .val (.int p2), .val (.int p3), .val (.int p4), .val (.int p5), .val (.int xx), .val (.int yy), .val (.int (2 : Int32)), .val (.int zz), .val (.ref b_137), .unset] [(.int (p2 ||| (1 : Int32))), (.int (0 : Int32)), (.ref b_137)])) rfl (by rw [hml]; rfl) (Steps.refl _) (argsL := [(.int (0 : Int32)), (.int (p2 ||| (1 : Int32)))]) (rest := []) (lenOf pd_4 rfl) rfl (by show 2 * 0 + _ ≤ _; exact Nat.le_of_eq rfl) (hb hby at_67) (fun _ _ => ⟨rfl, e_139, (by decide : 8 + 0 ≤ _), (by decide : 113 + 0 ≤ _)⟩)
    dsimp only [Pt.U, Pt.locs, Pt.cells, Pt.slots] at X_140 l_140 y_140 z_140 st_140 hQ_140
    subst l_140 y_140 z_140
    obtain ⟨h_140, e_140⟩ : ∃ z, T_140.heap = z := ⟨_, rfl⟩
    rw [e_140] at hQ_140
    obtain ⟨Nq_140, K_140, n_140_A_pa_138, rfl⟩ := hQ_140
    replace Nf := Fr.app Nf Nq_140
    replace E_b_137 := E_b_137.keep K_140
    replace F_player_b_137 := F_player_b_137.keep K_140 (ninS ne_b_137_pa_138 nin0)
    replace F_first_b_137 := F_first_b_137.keep K_140 (ninS ne_b_137_pa_138 nin0)
    replace F_degree_b_137 := F_degree_b_137.keep K_140 (ninS ne_b_137_pa_138 nin0)
    replace F_edges_b_137 := F_edges_b_137.keep K_140 (ninS ne_b_137_pa_138 nin0)
    replace F_partner_b_137 := F_partner_b_137.keep K_140 (ninS ne_b_137_pa_138 nin0)
    replace F_edgeLeft_b_137 := F_edgeLeft_b_137.keep K_140 (ninS ne_b_137_pa_138 nin0)
    replace F_slotPlus1_b_137 := F_slotPlus1_b_137.keep K_140 (ninS ne_b_137_pa_138 nin0)
    replace F_slots_b_137 := F_slots_b_137.keep K_140 (ninS ne_b_137_pa_138 nin0)
    replace F_edgeCount_b_137 := F_edgeCount_b_137.keep K_140 (ninS ne_b_137_pa_138 nin0)
    replace A_pl_138 := A_pl_138.keep K_140 (ninS ne_pl_138_pa_138 nin0)
    replace A_fi_138 := A_fi_138.keep K_140 (ninS ne_fi_138_pa_138 nin0)
    replace A_de_138 := A_de_138.keep K_140 (ninS ne_de_138_pa_138 nin0)
    replace A_ed_138 := A_ed_138.keep K_140 (ninS ne_ed_138_pa_138 nin0)
    clear A_pa_138
    replace A_el_138 := A_el_138.keep K_140 (ninS (Ne.symm ne_pa_138_el_138) nin0)
    replace A_sp_138 := A_sp_138.keep K_140 (ninS (Ne.symm ne_pa_138_sp_138) nin0)
    replace lt_b_137 := Nat.lt_of_lt_of_le lt_b_137 K_140.1
    replace lt_pl_138 := Nat.lt_of_lt_of_le lt_pl_138 K_140.1
    replace lt_fi_138 := Nat.lt_of_lt_of_le lt_fi_138 K_140.1
    replace lt_de_138 := Nat.lt_of_lt_of_le lt_de_138 K_140.1
    replace lt_ed_138 := Nat.lt_of_lt_of_le lt_ed_138 K_140.1
    replace lt_pa_138 := Nat.lt_of_lt_of_le lt_pa_138 K_140.1
    replace lt_el_138 := Nat.lt_of_lt_of_le lt_el_138 K_140.1
    replace lt_sp_138 := Nat.lt_of_lt_of_le lt_sp_138 K_140.1
    replace Zs := Nat.le_trans Zs K_140.1
    have A_pa_138 := n_140_A_pa_138
    refine Win.come st_140 ?_
    clear st_140 Nq_140 X_139 e_139 K_140
    show Win p.tables e below _ (T_140.setTop (mkF m 70 #[.val (.int p0), .val (.int p1), .val (.int p2), .val (.int p3), .val (.int p4), .val (.int p5), .val (.int xx), .val (.int yy), .val (.int (2 : Int32)), .val (.int zz), .val (.ref b_137), .unset] []))
    refine s_iload (pc' := 72) X_140.here hx (hb hby at_70) rfl rfl ?_
    refine s_iconst (pc' := 73) (z := (2 : Int32)) X_140.here hx (hb hby at_72) rfl rfl ?_
    refine s_icmpNo (pc' := 76) X_140.here hx (hb hby at_73) rfl (fltI (x := (2 : Int32)) (y := (2 : Int32)) (by decide)).1 ?_
    refine s_aload (pc' := 78) X_140.here hx (hb hby at_76) rfl rfl rfl ?_
    refine s_iload (pc' := 80) X_140.here hx (hb hby at_78) rfl rfl ?_
    refine s_iloadN (pc' := 81) X_140.here hx (hb hby at_80) rfl rfl ?_
    obtain ⟨cq_141, kq_141, q_141a, q_141b, q_141c⟩ := isOf hZ e_140 E_b_137
    obtain ⟨_, _, ⟨T_141, L_141, k_141, n_141⟩, -, X_141, ⟨Lc_141, hQ_141, l_141, y_141, z_141⟩, st_141⟩ := X_140.virtualBack hx (y := (⟨"com/example/nearstable/nearstable/maximal/Players", "add", "(II)V"⟩ : MethodName)) (z := (⟨"com/example/nearstable/nearstable/maximal/Players", "add", "(II)V"⟩ : MethodName)) hown (mvT hZ (hw _ (List.mem_of_getElem? (i := 45) rfl))) (mvT hZ (hw _ (List.mem_of_getElem? (i := 46) rfl))) (notFace_of_selects (args := #[]) (mvT hZ (hw _ (List.mem_of_getElem? (i := 48) rfl)))) (mvT hZ (hw _ (List.mem_of_getElem? (i := 48) rfl))) (mvT hZ (hw _ (List.mem_of_getElem? (i := 47) rfl))) (by decide) (backOf (W := 0) (rm6_1 l Z a0 hw [] b_137 yy p3 pl_138 fi_138 de_138 ed_138 pa_138 el_138 sp_138 (updF (fun _ => 0) (0 : Int) xx) (updF (fun _ => 0) (0 : Int) (0 : Int32)) (updF (updF (fun _ => 0) (0 : Int) (0 : Int32)) (0 : Int) ((updF (fun _ => 0) (0 : Int) (0 : Int32)) (0 : Int) + (1 : Int32))) (updF (fun _ => 0) (0 : Int) p2) (updF (updF (fun _ => 0) (0 : Int) (0 : Int32)) (0 : Int) (p2 ||| (1 : Int32))) (updF (fun _ => 0) (0 : Int) (0 : Int32)) (updF (fun _ => 0) (xx).toInt (1 : Int32)) h_140 n0 Zs E_b_137 F_player_b_137 F_first_b_137 F_degree_b_137 F_edges_b_137 F_partner_b_137 F_edgeLeft_b_137 F_slotPlus1_b_137 F_slots_b_137 F_edgeCount_b_137 A_pl_138 A_fi_138 A_de_138 A_ed_138 A_pa_138 A_el_138 A_sp_138 g_b_137 g_pl_138 g_fi_138 g_de_138 g_ed_138 g_pa_138 g_el_138 g_sp_138 ne_b_137_pl_138 ne_b_137_fi_138 ne_b_137_de_138 ne_b_137_ed_138 ne_b_137_pa_138 ne_b_137_el_138 ne_b_137_sp_138 ne_pl_138_fi_138 ne_pl_138_de_138 ne_pl_138_ed_138 ne_pl_138_pa_138 ne_pl_138_el_138 ne_pl_138_sp_138 ne_fi_138_de_138 ne_fi_138_ed_138 ne_fi_138_pa_138 ne_fi_138_el_138 ne_fi_138_sp_138 ne_de_138_ed_138 ne_de_138_pa_138 ne_de_138_el_138 ne_de_138_sp_138 ne_ed_138_pa_138 ne_ed_138_el_138 ne_ed_138_sp_138 ne_pa_138_el_138 ne_pa_138_sp_138 ne_el_138_sp_138 (by omega) (by rw [updF_miss byy.2.2])) hZ (hw _ (List.mem_of_getElem? (i := 49) rfl)) (hw _ (List.mem_of_getElem? (i := 3) rfl)) (by decide) (by decide)) q_141a q_141c (g := (mkF m 81 #[.val (.int p0), .val (.int p1), .val (.int p2), .val (.int p3), .val (.int p4), .val (.int p5), .val (.int xx), .val (.int yy), .val (.int (2 : Int32)), .val (.int zz), .val (.ref b_137), .unset] [(.int p3), (.int yy), (.ref b_137)])) rfl (by rw [hml]; rfl) (Steps.refl _) (argsL := [(.int yy), (.int p3)]) (rest := []) (lenOf pd_4 rfl) rfl (by show 2 * 0 + _ ≤ _; exact Nat.le_of_eq rfl) (hb hby at_81) (fun _ _ => ⟨rfl, e_140, (by decide : 8 + 0 ≤ _), (by decide : 113 + 0 ≤ _)⟩)
    dsimp only [Pt.U, Pt.locs, Pt.cells, Pt.slots] at X_141 l_141 y_141 z_141 st_141 hQ_141
    subst l_141 y_141 z_141
    obtain ⟨h_141, e_141⟩ : ∃ z, T_141.heap = z := ⟨_, rfl⟩
    rw [e_141] at hQ_141
    obtain ⟨Nq_141, K_141, n_141_F_player_b_137, n_141_F_first_b_137, n_141_F_degree_b_137, n_141_F_edges_b_137, n_141_F_partner_b_137, n_141_F_edgeLeft_b_137, n_141_F_slotPlus1_b_137, n_141_F_slots_b_137, n_141_F_edgeCount_b_137, n_141_A_pl_138, n_141_A_fi_138, n_141_A_de_138, n_141_A_ed_138, n_141_A_pa_138, n_141_A_el_138, n_141_A_sp_138, rfl⟩ := hQ_141
    replace Nf := Fr.app Nf Nq_141
    replace E_b_137 := E_b_137.keep K_141
    clear F_player_b_137
    clear F_first_b_137
    clear F_degree_b_137
    clear F_edges_b_137
    clear F_partner_b_137
    clear F_edgeLeft_b_137
    clear F_slotPlus1_b_137
    clear F_slots_b_137
    clear F_edgeCount_b_137
    clear A_pl_138
    clear A_fi_138
    clear A_de_138
    clear A_ed_138
    clear A_el_138
    clear A_sp_138
    clear A_pa_138
    replace lt_b_137 := Nat.lt_of_lt_of_le lt_b_137 K_141.1
    replace lt_pl_138 := Nat.lt_of_lt_of_le lt_pl_138 K_141.1
    replace lt_fi_138 := Nat.lt_of_lt_of_le lt_fi_138 K_141.1
    replace lt_de_138 := Nat.lt_of_lt_of_le lt_de_138 K_141.1
    replace lt_ed_138 := Nat.lt_of_lt_of_le lt_ed_138 K_141.1
    replace lt_pa_138 := Nat.lt_of_lt_of_le lt_pa_138 K_141.1
    replace lt_el_138 := Nat.lt_of_lt_of_le lt_el_138 K_141.1
    replace lt_sp_138 := Nat.lt_of_lt_of_le lt_sp_138 K_141.1
    replace Zs := Nat.le_trans Zs K_141.1
    have F_player_b_137 := n_141_F_player_b_137
    have F_first_b_137 := n_141_F_first_b_137
    have F_degree_b_137 := n_141_F_degree_b_137
    have F_edges_b_137 := n_141_F_edges_b_137
    have F_partner_b_137 := n_141_F_partner_b_137
    have F_edgeLeft_b_137 := n_141_F_edgeLeft_b_137
    have F_slotPlus1_b_137 := n_141_F_slotPlus1_b_137
    have F_slots_b_137 := n_141_F_slots_b_137
    have F_edgeCount_b_137 := n_141_F_edgeCount_b_137
    have A_pl_138 := n_141_A_pl_138
    have A_fi_138 := n_141_A_fi_138
    have A_de_138 := n_141_A_de_138
    have A_ed_138 := n_141_A_ed_138
    have A_pa_138 := n_141_A_pa_138
    have A_el_138 := n_141_A_el_138
    have A_sp_138 := n_141_A_sp_138
    refine Win.come st_141 ?_
    clear st_141 Nq_141 X_140 e_140 K_141
    show Win p.tables e below _ (T_141.setTop (mkF m 84 #[.val (.int p0), .val (.int p1), .val (.int p2), .val (.int p3), .val (.int p4), .val (.int p5), .val (.int xx), .val (.int yy), .val (.int (2 : Int32)), .val (.int zz), .val (.ref b_137), .unset] []))
    refine s_aload (pc' := 86) X_141.here hx (hb hby at_84) rfl rfl rfl ?_
    obtain ⟨cq_142, kq_142, q_142a, q_142b, q_142c⟩ := isOf hZ e_141 E_b_137
    obtain ⟨_, _, ⟨T_142, L_142, k_142, n_142⟩, -, X_142, ⟨Lc_142, hQ_142, l_142, y_142, z_142⟩, st_142⟩ := X_141.virtualBack hx (y := (⟨"com/example/nearstable/nearstable/maximal/Players", "clear", "()V"⟩ : MethodName)) (z := (⟨"com/example/nearstable/nearstable/maximal/Players", "clear", "()V"⟩ : MethodName)) hown (mvT hZ (hw _ (List.mem_of_getElem? (i := 26) rfl))) (mvT hZ (hw _ (List.mem_of_getElem? (i := 27) rfl))) (notFace_of_selects (args := #[]) (mvT hZ (hw _ (List.mem_of_getElem? (i := 29) rfl)))) (mvT hZ (hw _ (List.mem_of_getElem? (i := 29) rfl))) (mvT hZ (hw _ (List.mem_of_getElem? (i := 28) rfl))) (by decide) (backOf (W := 0) (rm3_2 l Z a0 hw [] b_137 pl_138 fi_138 de_138 ed_138 pa_138 el_138 sp_138 (updF (updF (fun _ => 0) (0 : Int) xx) (1 : Int) yy) (updF (updF (fun _ => 0) (0 : Int) (0 : Int32)) (1 : Int) (1 : Int32)) (updF (updF (updF (updF (fun _ => 0) (0 : Int) (0 : Int32)) (0 : Int) ((updF (fun _ => 0) (0 : Int) (0 : Int32)) (0 : Int) + (1 : Int32))) (1 : Int) (0 : Int32)) (1 : Int) ((updF (updF (updF (fun _ => 0) (0 : Int) (0 : Int32)) (0 : Int) ((updF (fun _ => 0) (0 : Int) (0 : Int32)) (0 : Int) + (1 : Int32))) (1 : Int) (0 : Int32)) (1 : Int) + (1 : Int32))) (updF (updF (fun _ => 0) (0 : Int) p2) (1 : Int) p3) (updF (updF (updF (fun _ => 0) (0 : Int) (0 : Int32)) (0 : Int) (p2 ||| (1 : Int32))) (1 : Int) (0 : Int32)) (updF (updF (fun _ => 0) (0 : Int) (0 : Int32)) (1 : Int) (0 : Int32)) (updF (updF (fun _ => 0) (xx).toInt (1 : Int32)) (yy).toInt (2 : Int32)) h_141 n0 Zs E_b_137 F_player_b_137 F_first_b_137 F_degree_b_137 F_edges_b_137 F_partner_b_137 F_edgeLeft_b_137 F_slotPlus1_b_137 F_slots_b_137 F_edgeCount_b_137 A_pl_138 A_fi_138 A_de_138 A_ed_138 A_pa_138 A_el_138 A_sp_138 g_b_137 g_pl_138 g_fi_138 g_de_138 g_ed_138 g_pa_138 g_el_138 g_sp_138 ne_b_137_pl_138 ne_b_137_fi_138 ne_b_137_de_138 ne_b_137_ed_138 ne_b_137_pa_138 ne_b_137_el_138 ne_b_137_sp_138 ne_pl_138_fi_138 ne_pl_138_de_138 ne_pl_138_ed_138 ne_pl_138_pa_138 ne_pl_138_el_138 ne_pl_138_sp_138 ne_fi_138_de_138 ne_fi_138_ed_138 ne_fi_138_pa_138 ne_fi_138_el_138 ne_fi_138_sp_138 ne_de_138_ed_138 ne_de_138_pa_138 ne_de_138_el_138 ne_de_138_sp_138 ne_ed_138_pa_138 ne_ed_138_el_138 ne_ed_138_sp_138 ne_pa_138_el_138 ne_pa_138_sp_138 ne_el_138_sp_138 (by simp [updF]; omega)) hZ (hw _ (List.mem_of_getElem? (i := 30) rfl)) (hw _ (List.mem_of_getElem? (i := 3) rfl)) (by decide) (by decide)) q_142a q_142c (g := (mkF m 86 #[.val (.int p0), .val (.int p1), .val (.int p2), .val (.int p3), .val (.int p4), .val (.int p5), .val (.int xx), .val (.int yy), .val (.int (2 : Int32)), .val (.int zz), .val (.ref b_137), .unset] [(.ref b_137)])) rfl (by rw [hml]; rfl) (Steps.refl _) (argsL := []) (rest := []) (lenOf pd_2 rfl) rfl (by show 2 * 0 + _ ≤ _; exact Nat.le_of_eq rfl) (hb hby at_86) (fun _ _ => ⟨rfl, e_141, (by decide : 8 + 0 ≤ _), (by decide : 113 + 0 ≤ _)⟩)
    dsimp only [Pt.U, Pt.locs, Pt.cells, Pt.slots] at X_142 l_142 y_142 z_142 st_142 hQ_142
    subst l_142 y_142 z_142
    obtain ⟨h_142, e_142⟩ : ∃ z, T_142.heap = z := ⟨_, rfl⟩
    rw [e_142] at hQ_142
    obtain ⟨Nq_142, K_142, n_142_F_player_b_137, n_142_F_first_b_137, n_142_F_degree_b_137, n_142_F_edges_b_137, n_142_F_partner_b_137, n_142_F_edgeLeft_b_137, n_142_F_slotPlus1_b_137, n_142_F_slots_b_137, n_142_F_edgeCount_b_137, n_142_A_sp_138, rfl⟩ := hQ_142
    replace Nf := Fr.app Nf Nq_142
    replace E_b_137 := E_b_137.keep K_142
    clear F_player_b_137
    clear F_first_b_137
    clear F_degree_b_137
    clear F_edges_b_137
    clear F_partner_b_137
    clear F_edgeLeft_b_137
    clear F_slotPlus1_b_137
    clear F_slots_b_137
    clear F_edgeCount_b_137
    replace A_pl_138 := A_pl_138.keep K_142 (ninS (Ne.symm ne_b_137_pl_138) (ninS ne_pl_138_sp_138 nin0))
    replace A_fi_138 := A_fi_138.keep K_142 (ninS (Ne.symm ne_b_137_fi_138) (ninS ne_fi_138_sp_138 nin0))
    replace A_de_138 := A_de_138.keep K_142 (ninS (Ne.symm ne_b_137_de_138) (ninS ne_de_138_sp_138 nin0))
    replace A_ed_138 := A_ed_138.keep K_142 (ninS (Ne.symm ne_b_137_ed_138) (ninS ne_ed_138_sp_138 nin0))
    replace A_pa_138 := A_pa_138.keep K_142 (ninS (Ne.symm ne_b_137_pa_138) (ninS ne_pa_138_sp_138 nin0))
    replace A_el_138 := A_el_138.keep K_142 (ninS (Ne.symm ne_b_137_el_138) (ninS ne_el_138_sp_138 nin0))
    clear A_sp_138
    replace lt_b_137 := Nat.lt_of_lt_of_le lt_b_137 K_142.1
    replace lt_pl_138 := Nat.lt_of_lt_of_le lt_pl_138 K_142.1
    replace lt_fi_138 := Nat.lt_of_lt_of_le lt_fi_138 K_142.1
    replace lt_de_138 := Nat.lt_of_lt_of_le lt_de_138 K_142.1
    replace lt_ed_138 := Nat.lt_of_lt_of_le lt_ed_138 K_142.1
    replace lt_pa_138 := Nat.lt_of_lt_of_le lt_pa_138 K_142.1
    replace lt_el_138 := Nat.lt_of_lt_of_le lt_el_138 K_142.1
    replace lt_sp_138 := Nat.lt_of_lt_of_le lt_sp_138 K_142.1
    replace Zs := Nat.le_trans Zs K_142.1
    have F_player_b_137 := n_142_F_player_b_137
    have F_first_b_137 := n_142_F_first_b_137
    have F_degree_b_137 := n_142_F_degree_b_137
    have F_edges_b_137 := n_142_F_edges_b_137
    have F_partner_b_137 := n_142_F_partner_b_137
    have F_edgeLeft_b_137 := n_142_F_edgeLeft_b_137
    have F_slotPlus1_b_137 := n_142_F_slotPlus1_b_137
    have F_slots_b_137 := n_142_F_slots_b_137
    have F_edgeCount_b_137 := n_142_F_edgeCount_b_137
    have A_sp_138 := n_142_A_sp_138
    refine Win.come st_142 ?_
    clear st_142 Nq_142 X_141 e_141 K_142
    show Win p.tables e below _ (T_142.setTop (mkF m 89 #[.val (.int p0), .val (.int p1), .val (.int p2), .val (.int p3), .val (.int p4), .val (.int p5), .val (.int xx), .val (.int yy), .val (.int (2 : Int32)), .val (.int zz), .val (.ref b_137), .unset] []))
    have eg : (updF (updF (updF (updF (fun _ => 0) (xx).toInt (1 : Int32)) (yy).toInt (2 : Int32)) (((updF (updF (fun _ => 0) (0 : Int) xx) (1 : Int) yy) (0 : Int))).toInt (0 : Int32)) (((updF (updF (fun _ => 0) (0 : Int) xx) (1 : Int) yy) (1 : Int))).toInt (0 : Int32)) = (fun _ => (0 : Int32)) := by
      have q0 : (updF (updF (fun _ => 0) (0 : Int) xx) (1 : Int) yy) (0 : Int) = xx := by simp [updF]
      have q1 : (updF (updF (fun _ => 0) (0 : Int) xx) (1 : Int) yy) (1 : Int) = yy := by simp [updF]
      rw [q0, q1]
      exact own_clr2 _ _ _ _
    rw [eg] at A_sp_138
    refine s_aload (pc' := 91) X_142.here hx (hb hby at_89) rfl rfl rfl ?_
    obtain ⟨cq_143, kq_143, q_143a, q_143b, q_143c⟩ := isOf hZ e_142 E_b_137
    obtain ⟨_, _, ⟨T_143, L_143, k_143, n_143⟩, -, X_143, ⟨Lc_143, hQ_143, l_143, y_143, z_143⟩, st_143⟩ := X_142.virtualBack hx (y := (⟨"com/example/nearstable/nearstable/maximal/Players", "slots", "()I"⟩ : MethodName)) (z := (⟨"com/example/nearstable/nearstable/maximal/Players", "slots", "()I"⟩ : MethodName)) hown (mvT hZ (hw _ (List.mem_of_getElem? (i := 35) rfl))) (mvT hZ (hw _ (List.mem_of_getElem? (i := 36) rfl))) (notFace_of_selects (args := #[]) (mvT hZ (hw _ (List.mem_of_getElem? (i := 38) rfl)))) (mvT hZ (hw _ (List.mem_of_getElem? (i := 38) rfl))) (mvT hZ (hw _ (List.mem_of_getElem? (i := 37) rfl))) (by decide) (backOf (W := 0) (rm4 l Z a0 hw [] b_137 (0 : Int32) h_142 n0 Zs F_slots_b_137) hZ (hw _ (List.mem_of_getElem? (i := 39) rfl)) (hw _ (List.mem_of_getElem? (i := 3) rfl)) (by decide) (by decide)) q_143a q_143c (g := (mkF m 91 #[.val (.int p0), .val (.int p1), .val (.int p2), .val (.int p3), .val (.int p4), .val (.int p5), .val (.int xx), .val (.int yy), .val (.int (2 : Int32)), .val (.int zz), .val (.ref b_137), .unset] [(.ref b_137)])) rfl (by rw [hml]; rfl) (Steps.refl _) (argsL := []) (rest := []) (lenOf pd_3 rfl) rfl (by show 2 * 0 + _ ≤ _; exact Nat.le_of_eq rfl) (hb hby at_91) (fun _ _ => ⟨rfl, e_142, (by decide : 8 + 0 ≤ _), (by decide : 113 + 0 ≤ _)⟩)
    dsimp only [Pt.U, Pt.locs, Pt.cells, Pt.slots] at X_143 l_143 y_143 z_143 st_143 hQ_143
    subst l_143 y_143 z_143
    obtain ⟨Nq_143, e_143, rfl⟩ := hQ_143
    replace Nf := Fr.app Nf Nq_143
    refine Win.come st_143 ?_
    clear st_143 Nq_143 X_142 e_142
    show Win p.tables e below _ (T_143.setTop (mkF m 94 #[.val (.int p0), .val (.int p1), .val (.int p2), .val (.int p3), .val (.int p4), .val (.int p5), .val (.int xx), .val (.int yy), .val (.int (2 : Int32)), .val (.int zz), .val (.ref b_137), .unset] [(.int (0 : Int32))]))
    refine s_ifNo (pc' := 97) X_143.here hx (hb hby at_94) rfl ((if0 _ _).trans (teqI (x := (0 : Int32)) (y := (0 : Int32)) (by decide)).2) ?_
    refine s_aload (pc' := 99) X_143.here hx (hb hby at_97) rfl rfl rfl ?_
    refine s_iload (pc' := 101) X_143.here hx (hb hby at_99) rfl rfl ?_
    obtain ⟨cq_144, kq_144, q_144a, q_144b, q_144c⟩ := isOf hZ e_143 E_b_137
    obtain ⟨_, _, ⟨T_144, L_144, k_144, n_144⟩, -, X_144, ⟨Lc_144, hQ_144, l_144, y_144, z_144⟩, st_144⟩ := X_143.virtualBack hx (y := (⟨"com/example/nearstable/nearstable/maximal/Players", "slot", "(I)I"⟩ : MethodName)) (z := (⟨"com/example/nearstable/nearstable/maximal/Players", "slot", "(I)I"⟩ : MethodName)) hown (mvT hZ (hw _ (List.mem_of_getElem? (i := 40) rfl))) (mvT hZ (hw _ (List.mem_of_getElem? (i := 41) rfl))) (notFace_of_selects (args := #[]) (mvT hZ (hw _ (List.mem_of_getElem? (i := 43) rfl)))) (mvT hZ (hw _ (List.mem_of_getElem? (i := 43) rfl))) (mvT hZ (hw _ (List.mem_of_getElem? (i := 42) rfl))) (by decide) (backOf (W := 0) (rm5 l Z a0 hw [] b_137 xx sp_138 (fun _ => 0) h_142 n0 Zs F_slotPlus1_b_137 A_sp_138 (by omega)) hZ (hw _ (List.mem_of_getElem? (i := 44) rfl)) (hw _ (List.mem_of_getElem? (i := 3) rfl)) (by decide) (by decide)) q_144a q_144c (g := (mkF m 101 #[.val (.int p0), .val (.int p1), .val (.int p2), .val (.int p3), .val (.int p4), .val (.int p5), .val (.int xx), .val (.int yy), .val (.int (2 : Int32)), .val (.int zz), .val (.ref b_137), .unset] [(.int xx), (.ref b_137)])) rfl (by rw [hml]; rfl) (Steps.refl _) (argsL := [(.int xx)]) (rest := []) (lenOf pd_0 rfl) rfl (by show 2 * 0 + _ ≤ _; exact Nat.le_of_eq rfl) (hb hby at_101) (fun _ _ => ⟨rfl, e_143, (by decide : 8 + 0 ≤ _), (by decide : 113 + 0 ≤ _)⟩)
    dsimp only [Pt.U, Pt.locs, Pt.cells, Pt.slots] at X_144 l_144 y_144 z_144 st_144 hQ_144
    subst l_144 y_144 z_144
    obtain ⟨Nq_144, e_144, rfl⟩ := hQ_144
    replace Nf := Fr.app Nf Nq_144
    refine Win.come st_144 ?_
    clear st_144 Nq_144 X_143 e_143
    show Win p.tables e below _ (T_144.setTop (mkF m 104 #[.val (.int p0), .val (.int p1), .val (.int p2), .val (.int p3), .val (.int p4), .val (.int p5), .val (.int xx), .val (.int yy), .val (.int (2 : Int32)), .val (.int zz), .val (.ref b_137), .unset] [(.int (((fun _ => 0) (xx).toInt) - (1 : Int32)))]))
    refine s_iconst (pc' := 105) (z := (-1 : Int32)) X_144.here hx (hb hby at_104) rfl rfl ?_
    by_cases hc105 : ((((fun _ => 0) (xx).toInt) - (1 : Int32))).toInt = (-1 : Int)
    · skip
      refine s_icmpNo (pc' := 108) X_144.here hx (hb hby at_105) rfl (teqI (x := (((fun _ => 0) (xx).toInt) - (1 : Int32))) (y := (-1 : Int32)) hc105).2 ?_
      refine s_aload (pc' := 110) X_144.here hx (hb hby at_108) rfl rfl rfl ?_
      refine s_iload (pc' := 112) X_144.here hx (hb hby at_110) rfl rfl ?_
      obtain ⟨cq_145, kq_145, q_145a, q_145b, q_145c⟩ := isOf hZ e_144 E_b_137
      obtain ⟨_, _, ⟨T_145, L_145, k_145, n_145⟩, -, X_145, ⟨Lc_145, hQ_145, l_145, y_145, z_145⟩, st_145⟩ := X_144.virtualBack hx (y := (⟨"com/example/nearstable/nearstable/maximal/Players", "slot", "(I)I"⟩ : MethodName)) (z := (⟨"com/example/nearstable/nearstable/maximal/Players", "slot", "(I)I"⟩ : MethodName)) hown (mvT hZ (hw _ (List.mem_of_getElem? (i := 40) rfl))) (mvT hZ (hw _ (List.mem_of_getElem? (i := 41) rfl))) (notFace_of_selects (args := #[]) (mvT hZ (hw _ (List.mem_of_getElem? (i := 43) rfl)))) (mvT hZ (hw _ (List.mem_of_getElem? (i := 43) rfl))) (mvT hZ (hw _ (List.mem_of_getElem? (i := 42) rfl))) (by decide) (backOf (W := 0) (rm5 l Z a0 hw [] b_137 yy sp_138 (fun _ => 0) h_142 n0 Zs F_slotPlus1_b_137 A_sp_138 (by omega)) hZ (hw _ (List.mem_of_getElem? (i := 44) rfl)) (hw _ (List.mem_of_getElem? (i := 3) rfl)) (by decide) (by decide)) q_145a q_145c (g := (mkF m 112 #[.val (.int p0), .val (.int p1), .val (.int p2), .val (.int p3), .val (.int p4), .val (.int p5), .val (.int xx), .val (.int yy), .val (.int (2 : Int32)), .val (.int zz), .val (.ref b_137), .unset] [(.int yy), (.ref b_137)])) rfl (by rw [hml]; rfl) (Steps.refl _) (argsL := [(.int yy)]) (rest := []) (lenOf pd_0 rfl) rfl (by show 2 * 0 + _ ≤ _; exact Nat.le_of_eq rfl) (hb hby at_112) (fun _ _ => ⟨rfl, e_144, (by decide : 8 + 0 ≤ _), (by decide : 113 + 0 ≤ _)⟩)
      dsimp only [Pt.U, Pt.locs, Pt.cells, Pt.slots] at X_145 l_145 y_145 z_145 st_145 hQ_145
      subst l_145 y_145 z_145
      obtain ⟨Nq_145, e_145, rfl⟩ := hQ_145
      replace Nf := Fr.app Nf Nq_145
      refine Win.come st_145 ?_
      clear st_145 Nq_145 X_144 e_144
      show Win p.tables e below _ (T_145.setTop (mkF m 115 #[.val (.int p0), .val (.int p1), .val (.int p2), .val (.int p3), .val (.int p4), .val (.int p5), .val (.int xx), .val (.int yy), .val (.int (2 : Int32)), .val (.int zz), .val (.ref b_137), .unset] [(.int (((fun _ => 0) (yy).toInt) - (1 : Int32)))]))
      refine s_iconst (pc' := 116) (z := (-1 : Int32)) X_145.here hx (hb hby at_115) rfl rfl ?_
      by_cases hc116 : ((((fun _ => 0) (yy).toInt) - (1 : Int32))).toInt = (-1 : Int)
      · skip
        refine s_icmpNo (pc' := 119) X_145.here hx (hb hby at_116) rfl (teqI (x := (((fun _ => 0) (yy).toInt) - (1 : Int32))) (y := (-1 : Int32)) hc116).2 ?_
        refine s_iconst (pc' := 120) (z := (1 : Int32)) X_145.here hx (hb hby at_119) rfl rfl ?_
        refine s_goto (pc' := 124) X_145.here hx (hb hby at_120) (by decide) (by decide) ?_
        refine s_istore (pc' := 126) (l' := #[.val (.int p0), .val (.int p1), .val (.int p2), .val (.int p3), .val (.int p4), .val (.int p5), .val (.int xx), .val (.int yy), .val (.int (2 : Int32)), .val (.int zz), .val (.ref b_137), .val (.int (1 : Int32))]) X_145.here hx (hb hby at_124) rfl rfl ?_
        refine s_aload (pc' := 128) X_145.here hx (hb hby at_126) rfl rfl rfl ?_
        refine s_iload (pc' := 130) X_145.here hx (hb hby at_128) rfl rfl ?_
        refine s_iload (pc' := 132) X_145.here hx (hb hby at_130) rfl rfl ?_
        obtain ⟨cq_146, kq_146, q_146a, q_146b, q_146c⟩ := isOf hZ e_145 E_b_137
        obtain ⟨_, _, ⟨T_146, L_146, k_146, n_146⟩, -, X_146, ⟨Lc_146, hQ_146, l_146, y_146, z_146⟩, st_146⟩ := X_145.virtualBack hx (y := (⟨"com/example/nearstable/nearstable/maximal/Players", "add", "(II)V"⟩ : MethodName)) (z := (⟨"com/example/nearstable/nearstable/maximal/Players", "add", "(II)V"⟩ : MethodName)) hown (mvT hZ (hw _ (List.mem_of_getElem? (i := 45) rfl))) (mvT hZ (hw _ (List.mem_of_getElem? (i := 46) rfl))) (notFace_of_selects (args := #[]) (mvT hZ (hw _ (List.mem_of_getElem? (i := 48) rfl)))) (mvT hZ (hw _ (List.mem_of_getElem? (i := 48) rfl))) (mvT hZ (hw _ (List.mem_of_getElem? (i := 47) rfl))) (by decide) (backOf (W := 0) (rm6_0 l Z a0 hw [] b_137 zz p4 pl_138 fi_138 de_138 ed_138 pa_138 el_138 sp_138 (updF (updF (fun _ => 0) (0 : Int) xx) (1 : Int) yy) (updF (updF (fun _ => 0) (0 : Int) (0 : Int32)) (1 : Int) (1 : Int32)) (updF (updF (updF (updF (fun _ => 0) (0 : Int) (0 : Int32)) (0 : Int) ((updF (fun _ => 0) (0 : Int) (0 : Int32)) (0 : Int) + (1 : Int32))) (1 : Int) (0 : Int32)) (1 : Int) ((updF (updF (updF (fun _ => 0) (0 : Int) (0 : Int32)) (0 : Int) ((updF (fun _ => 0) (0 : Int) (0 : Int32)) (0 : Int) + (1 : Int32))) (1 : Int) (0 : Int32)) (1 : Int) + (1 : Int32))) (updF (updF (fun _ => 0) (0 : Int) p2) (1 : Int) p3) (updF (updF (updF (fun _ => 0) (0 : Int) (0 : Int32)) (0 : Int) (p2 ||| (1 : Int32))) (1 : Int) (0 : Int32)) (updF (updF (fun _ => 0) (0 : Int) (0 : Int32)) (1 : Int) (0 : Int32)) (fun _ => 0) h_142 n0 Zs E_b_137 F_player_b_137 F_first_b_137 F_degree_b_137 F_edges_b_137 F_partner_b_137 F_edgeLeft_b_137 F_slotPlus1_b_137 F_slots_b_137 F_edgeCount_b_137 A_pl_138 A_fi_138 A_de_138 A_ed_138 A_pa_138 A_el_138 A_sp_138 g_b_137 g_pl_138 g_fi_138 g_de_138 g_ed_138 g_pa_138 g_el_138 g_sp_138 ne_b_137_pl_138 ne_b_137_fi_138 ne_b_137_de_138 ne_b_137_ed_138 ne_b_137_pa_138 ne_b_137_el_138 ne_b_137_sp_138 ne_pl_138_fi_138 ne_pl_138_de_138 ne_pl_138_ed_138 ne_pl_138_pa_138 ne_pl_138_el_138 ne_pl_138_sp_138 ne_fi_138_de_138 ne_fi_138_ed_138 ne_fi_138_pa_138 ne_fi_138_el_138 ne_fi_138_sp_138 ne_de_138_ed_138 ne_de_138_pa_138 ne_de_138_el_138 ne_de_138_sp_138 ne_ed_138_pa_138 ne_ed_138_el_138 ne_ed_138_sp_138 ne_pa_138_el_138 ne_pa_138_sp_138 ne_el_138_sp_138 (by omega) rfl) hZ (hw _ (List.mem_of_getElem? (i := 49) rfl)) (hw _ (List.mem_of_getElem? (i := 3) rfl)) (by decide) (by decide)) q_146a q_146c (g := (mkF m 132 #[.val (.int p0), .val (.int p1), .val (.int p2), .val (.int p3), .val (.int p4), .val (.int p5), .val (.int xx), .val (.int yy), .val (.int (2 : Int32)), .val (.int zz), .val (.ref b_137), .val (.int (1 : Int32))] [(.int p4), (.int zz), (.ref b_137)])) rfl (by rw [hml]; rfl) (Steps.refl _) (argsL := [(.int zz), (.int p4)]) (rest := []) (lenOf pd_4 rfl) rfl (by show 2 * 0 + _ ≤ _; exact Nat.le_of_eq rfl) (hb hby at_132) (fun _ _ => ⟨rfl, e_145, (by decide : 8 + 0 ≤ _), (by decide : 113 + 0 ≤ _)⟩)
        dsimp only [Pt.U, Pt.locs, Pt.cells, Pt.slots] at X_146 l_146 y_146 z_146 st_146 hQ_146
        subst l_146 y_146 z_146
        obtain ⟨h_146, e_146⟩ : ∃ z, T_146.heap = z := ⟨_, rfl⟩
        rw [e_146] at hQ_146
        obtain ⟨Nq_146, K_146, n_146_F_player_b_137, n_146_F_first_b_137, n_146_F_degree_b_137, n_146_F_edges_b_137, n_146_F_partner_b_137, n_146_F_edgeLeft_b_137, n_146_F_slotPlus1_b_137, n_146_F_slots_b_137, n_146_F_edgeCount_b_137, n_146_A_pl_138, n_146_A_fi_138, n_146_A_de_138, n_146_A_ed_138, n_146_A_pa_138, n_146_A_el_138, n_146_A_sp_138, rfl⟩ := hQ_146
        replace Nf := Fr.app Nf Nq_146
        replace E_b_137 := E_b_137.keep K_146
        clear A_pl_138
        clear A_fi_138
        clear A_de_138
        clear A_ed_138
        clear A_pa_138
        clear A_el_138
        clear F_player_b_137
        clear F_first_b_137
        clear F_degree_b_137
        clear F_edges_b_137
        clear F_partner_b_137
        clear F_edgeLeft_b_137
        clear F_slotPlus1_b_137
        clear F_slots_b_137
        clear F_edgeCount_b_137
        clear A_sp_138
        replace lt_b_137 := Nat.lt_of_lt_of_le lt_b_137 K_146.1
        replace lt_pl_138 := Nat.lt_of_lt_of_le lt_pl_138 K_146.1
        replace lt_fi_138 := Nat.lt_of_lt_of_le lt_fi_138 K_146.1
        replace lt_de_138 := Nat.lt_of_lt_of_le lt_de_138 K_146.1
        replace lt_ed_138 := Nat.lt_of_lt_of_le lt_ed_138 K_146.1
        replace lt_pa_138 := Nat.lt_of_lt_of_le lt_pa_138 K_146.1
        replace lt_el_138 := Nat.lt_of_lt_of_le lt_el_138 K_146.1
        replace lt_sp_138 := Nat.lt_of_lt_of_le lt_sp_138 K_146.1
        replace Zs := Nat.le_trans Zs K_146.1
        have F_player_b_137 := n_146_F_player_b_137
        have F_first_b_137 := n_146_F_first_b_137
        have F_degree_b_137 := n_146_F_degree_b_137
        have F_edges_b_137 := n_146_F_edges_b_137
        have F_partner_b_137 := n_146_F_partner_b_137
        have F_edgeLeft_b_137 := n_146_F_edgeLeft_b_137
        have F_slotPlus1_b_137 := n_146_F_slotPlus1_b_137
        have F_slots_b_137 := n_146_F_slots_b_137
        have F_edgeCount_b_137 := n_146_F_edgeCount_b_137
        have A_pl_138 := n_146_A_pl_138
        have A_fi_138 := n_146_A_fi_138
        have A_de_138 := n_146_A_de_138
        have A_ed_138 := n_146_A_ed_138
        have A_pa_138 := n_146_A_pa_138
        have A_el_138 := n_146_A_el_138
        have A_sp_138 := n_146_A_sp_138
        refine Win.come st_146 ?_
        clear st_146 Nq_146 X_145 e_145 K_146
        show Win p.tables e below _ (T_146.setTop (mkF m 135 #[.val (.int p0), .val (.int p1), .val (.int p2), .val (.int p3), .val (.int p4), .val (.int p5), .val (.int xx), .val (.int yy), .val (.int (2 : Int32)), .val (.int zz), .val (.ref b_137), .val (.int (1 : Int32))] []))
        refine s_iload (pc' := 137) X_146.here hx (hb hby at_135) rfl rfl ?_
        refine s_ifNo (pc' := 140) X_146.here hx (hb hby at_137) rfl ((if0 _ _).trans (feqI (x := (1 : Int32)) (y := (0 : Int32)) (by decide)).1) ?_
        refine s_aload (pc' := 142) X_146.here hx (hb hby at_140) rfl rfl rfl ?_
        obtain ⟨cq_147, kq_147, q_147a, q_147b, q_147c⟩ := isOf hZ e_146 E_b_137
        obtain ⟨_, _, ⟨T_147, L_147, k_147, n_147⟩, -, X_147, ⟨Lc_147, hQ_147, l_147, y_147, z_147⟩, st_147⟩ := X_146.virtualBack hx (y := (⟨"com/example/nearstable/nearstable/maximal/Players", "slots", "()I"⟩ : MethodName)) (z := (⟨"com/example/nearstable/nearstable/maximal/Players", "slots", "()I"⟩ : MethodName)) hown (mvT hZ (hw _ (List.mem_of_getElem? (i := 35) rfl))) (mvT hZ (hw _ (List.mem_of_getElem? (i := 36) rfl))) (notFace_of_selects (args := #[]) (mvT hZ (hw _ (List.mem_of_getElem? (i := 38) rfl)))) (mvT hZ (hw _ (List.mem_of_getElem? (i := 38) rfl))) (mvT hZ (hw _ (List.mem_of_getElem? (i := 37) rfl))) (by decide) (backOf (W := 0) (rm4 l Z a0 hw [] b_137 (1 : Int32) h_146 n0 Zs F_slots_b_137) hZ (hw _ (List.mem_of_getElem? (i := 39) rfl)) (hw _ (List.mem_of_getElem? (i := 3) rfl)) (by decide) (by decide)) q_147a q_147c (g := (mkF m 142 #[.val (.int p0), .val (.int p1), .val (.int p2), .val (.int p3), .val (.int p4), .val (.int p5), .val (.int xx), .val (.int yy), .val (.int (2 : Int32)), .val (.int zz), .val (.ref b_137), .val (.int (1 : Int32))] [(.ref b_137)])) rfl (by rw [hml]; rfl) (Steps.refl _) (argsL := []) (rest := []) (lenOf pd_3 rfl) rfl (by show 2 * 0 + _ ≤ _; exact Nat.le_of_eq rfl) (hb hby at_142) (fun _ _ => ⟨rfl, e_146, (by decide : 8 + 0 ≤ _), (by decide : 113 + 0 ≤ _)⟩)
        dsimp only [Pt.U, Pt.locs, Pt.cells, Pt.slots] at X_147 l_147 y_147 z_147 st_147 hQ_147
        subst l_147 y_147 z_147
        obtain ⟨Nq_147, e_147, rfl⟩ := hQ_147
        replace Nf := Fr.app Nf Nq_147
        refine Win.come st_147 ?_
        clear st_147 Nq_147 X_146 e_146
        show Win p.tables e below _ (T_147.setTop (mkF m 145 #[.val (.int p0), .val (.int p1), .val (.int p2), .val (.int p3), .val (.int p4), .val (.int p5), .val (.int xx), .val (.int yy), .val (.int (2 : Int32)), .val (.int zz), .val (.ref b_137), .val (.int (1 : Int32))] [(.int (1 : Int32))]))
        refine s_iconst (pc' := 146) (z := (1 : Int32)) X_147.here hx (hb hby at_145) rfl rfl ?_
        refine s_icmpNo (pc' := 149) X_147.here hx (hb hby at_146) rfl (teqI (x := (1 : Int32)) (y := (1 : Int32)) (by decide)).2 ?_
        refine s_aload (pc' := 151) X_147.here hx (hb hby at_149) rfl rfl rfl ?_
        refine s_iload (pc' := 153) X_147.here hx (hb hby at_151) rfl rfl ?_
        obtain ⟨cq_148, kq_148, q_148a, q_148b, q_148c⟩ := isOf hZ e_147 E_b_137
        obtain ⟨_, _, ⟨T_148, L_148, k_148, n_148⟩, -, X_148, ⟨Lc_148, hQ_148, l_148, y_148, z_148⟩, st_148⟩ := X_147.virtualBack hx (y := (⟨"com/example/nearstable/nearstable/maximal/Players", "slot", "(I)I"⟩ : MethodName)) (z := (⟨"com/example/nearstable/nearstable/maximal/Players", "slot", "(I)I"⟩ : MethodName)) hown (mvT hZ (hw _ (List.mem_of_getElem? (i := 40) rfl))) (mvT hZ (hw _ (List.mem_of_getElem? (i := 41) rfl))) (notFace_of_selects (args := #[]) (mvT hZ (hw _ (List.mem_of_getElem? (i := 43) rfl)))) (mvT hZ (hw _ (List.mem_of_getElem? (i := 43) rfl))) (mvT hZ (hw _ (List.mem_of_getElem? (i := 42) rfl))) (by decide) (backOf (W := 0) (rm5 l Z a0 hw [] b_137 zz sp_138 (updF (fun _ => 0) (zz).toInt (1 : Int32)) h_146 n0 Zs F_slotPlus1_b_137 A_sp_138 (by omega)) hZ (hw _ (List.mem_of_getElem? (i := 44) rfl)) (hw _ (List.mem_of_getElem? (i := 3) rfl)) (by decide) (by decide)) q_148a q_148c (g := (mkF m 153 #[.val (.int p0), .val (.int p1), .val (.int p2), .val (.int p3), .val (.int p4), .val (.int p5), .val (.int xx), .val (.int yy), .val (.int (2 : Int32)), .val (.int zz), .val (.ref b_137), .val (.int (1 : Int32))] [(.int zz), (.ref b_137)])) rfl (by rw [hml]; rfl) (Steps.refl _) (argsL := [(.int zz)]) (rest := []) (lenOf pd_0 rfl) rfl (by show 2 * 0 + _ ≤ _; exact Nat.le_of_eq rfl) (hb hby at_153) (fun _ _ => ⟨rfl, e_147, (by decide : 8 + 0 ≤ _), (by decide : 113 + 0 ≤ _)⟩)
        dsimp only [Pt.U, Pt.locs, Pt.cells, Pt.slots] at X_148 l_148 y_148 z_148 st_148 hQ_148
        subst l_148 y_148 z_148
        obtain ⟨Nq_148, e_148, rfl⟩ := hQ_148
        replace Nf := Fr.app Nf Nq_148
        refine Win.come st_148 ?_
        clear st_148 Nq_148 X_147 e_147
        show Win p.tables e below _ (T_148.setTop (mkF m 156 #[.val (.int p0), .val (.int p1), .val (.int p2), .val (.int p3), .val (.int p4), .val (.int p5), .val (.int xx), .val (.int yy), .val (.int (2 : Int32)), .val (.int zz), .val (.ref b_137), .val (.int (1 : Int32))] [(.int (((updF (fun _ => 0) (zz).toInt (1 : Int32)) (zz).toInt) - (1 : Int32)))]))
        by_cases hc156 : ((((updF (fun _ => 0) (zz).toInt (1 : Int32)) (zz).toInt) - (1 : Int32))).toInt = (0 : Int)
        · skip
          refine s_ifNo (pc' := 159) X_148.here hx (hb hby at_156) rfl ((if0 _ _).trans (teqI (x := (((updF (fun _ => 0) (zz).toInt (1 : Int32)) (zz).toInt) - (1 : Int32))) (y := (0 : Int32)) hc156).2) ?_
          refine s_aload (pc' := 161) X_148.here hx (hb hby at_159) rfl rfl rfl ?_
          refine s_iconst (pc' := 162) (z := (0 : Int32)) X_148.here hx (hb hby at_161) rfl rfl ?_
          refine s_iconst (pc' := 163) (z := (0 : Int32)) X_148.here hx (hb hby at_162) rfl rfl ?_
          obtain ⟨cq_149, kq_149, q_149a, q_149b, q_149c⟩ := isOf hZ e_148 E_b_137
          obtain ⟨_, _, ⟨T_149, L_149, k_149, n_149⟩, -, X_149, ⟨Lc_149, hQ_149, l_149, y_149, z_149⟩, st_149⟩ := X_148.virtualBack hx (y := (⟨"com/example/nearstable/nearstable/maximal/Players", "edge", "(II)I"⟩ : MethodName)) (z := (⟨"com/example/nearstable/nearstable/maximal/Players", "edge", "(II)I"⟩ : MethodName)) hown (mvT hZ (hw _ (List.mem_of_getElem? (i := 54) rfl))) (mvT hZ (hw _ (List.mem_of_getElem? (i := 55) rfl))) (notFace_of_selects (args := #[]) (mvT hZ (hw _ (List.mem_of_getElem? (i := 57) rfl)))) (mvT hZ (hw _ (List.mem_of_getElem? (i := 57) rfl))) (mvT hZ (hw _ (List.mem_of_getElem? (i := 56) rfl))) (by decide) (backOf (W := 0) (rm8 l Z a0 hw [] b_137 fi_138 ed_138 (updF (updF (updF (fun _ => 0) (0 : Int) (0 : Int32)) (1 : Int) (1 : Int32)) (0 : Int) (0 : Int32)) (updF (updF (updF (fun _ => 0) (0 : Int) p2) (1 : Int) p3) (0 : Int) p4) h_146 n0 Zs F_first_b_137 F_edges_b_137 A_fi_138 A_ed_138 (updF_hit _ _ _)) hZ (hw _ (List.mem_of_getElem? (i := 58) rfl)) (hw _ (List.mem_of_getElem? (i := 3) rfl)) (by decide) (by decide)) q_149a q_149c (g := (mkF m 163 #[.val (.int p0), .val (.int p1), .val (.int p2), .val (.int p3), .val (.int p4), .val (.int p5), .val (.int xx), .val (.int yy), .val (.int (2 : Int32)), .val (.int zz), .val (.ref b_137), .val (.int (1 : Int32))] [(.int (0 : Int32)), (.int (0 : Int32)), (.ref b_137)])) rfl (by rw [hml]; rfl) (Steps.refl _) (argsL := [(.int (0 : Int32)), (.int (0 : Int32))]) (rest := []) (lenOf pd_5 rfl) rfl (by show 2 * 0 + _ ≤ _; exact Nat.le_of_eq rfl) (hb hby at_163) (fun _ _ => ⟨rfl, e_148, (by decide : 8 + 0 ≤ _), (by decide : 113 + 0 ≤ _)⟩)
          dsimp only [Pt.U, Pt.locs, Pt.cells, Pt.slots] at X_149 l_149 y_149 z_149 st_149 hQ_149
          subst l_149 y_149 z_149
          obtain ⟨Nq_149, e_149, r, rfl, hr⟩ := hQ_149
          replace Nf := Fr.app Nf Nq_149
          refine Win.come st_149 ?_
          clear st_149 Nq_149 X_148 e_148
          show Win p.tables e below _ (T_149.setTop (mkF m 166 #[.val (.int p0), .val (.int p1), .val (.int p2), .val (.int p3), .val (.int p4), .val (.int p5), .val (.int xx), .val (.int yy), .val (.int (2 : Int32)), .val (.int zz), .val (.ref b_137), .val (.int (1 : Int32))] [(.int r)]))
          refine s_iload (pc' := 168) X_149.here hx (hb hby at_166) rfl rfl ?_
          by_cases hc168 : (r).toInt = (p4).toInt
          · skip
            refine s_icmpNo (pc' := 171) X_149.here hx (hb hby at_168) rfl (teqI (x := r) (y := p4) hc168).2 ?_
            refine s_aload (pc' := 173) X_149.here hx (hb hby at_171) rfl rfl rfl ?_
            refine s_iconst (pc' := 174) (z := (0 : Int32)) X_149.here hx (hb hby at_173) rfl rfl ?_
            obtain ⟨cq_150, kq_150, q_150a, q_150b, q_150c⟩ := isOf hZ e_149 E_b_137
            obtain ⟨_, _, ⟨T_150, L_150, k_150, n_150⟩, -, X_150, ⟨Lc_150, hQ_150, l_150, y_150, z_150⟩, st_150⟩ := X_149.virtualBack hx (y := (⟨"com/example/nearstable/nearstable/maximal/Players", "partner", "(I)I"⟩ : MethodName)) (z := (⟨"com/example/nearstable/nearstable/maximal/Players", "partner", "(I)I"⟩ : MethodName)) hown (mvT hZ (hw _ (List.mem_of_getElem? (i := 59) rfl))) (mvT hZ (hw _ (List.mem_of_getElem? (i := 60) rfl))) (notFace_of_selects (args := #[]) (mvT hZ (hw _ (List.mem_of_getElem? (i := 62) rfl)))) (mvT hZ (hw _ (List.mem_of_getElem? (i := 62) rfl))) (mvT hZ (hw _ (List.mem_of_getElem? (i := 61) rfl))) (by decide) (backOf (W := 0) (rm9 l Z a0 hw [] b_137 pa_138 (updF (updF (updF (updF (fun _ => 0) (0 : Int) (0 : Int32)) (0 : Int) (p2 ||| (1 : Int32))) (1 : Int) (0 : Int32)) (0 : Int) (0 : Int32)) h_146 n0 Zs F_partner_b_137 A_pa_138) hZ (hw _ (List.mem_of_getElem? (i := 63) rfl)) (hw _ (List.mem_of_getElem? (i := 3) rfl)) (by decide) (by decide)) q_150a q_150c (g := (mkF m 174 #[.val (.int p0), .val (.int p1), .val (.int p2), .val (.int p3), .val (.int p4), .val (.int p5), .val (.int xx), .val (.int yy), .val (.int (2 : Int32)), .val (.int zz), .val (.ref b_137), .val (.int (1 : Int32))] [(.int (0 : Int32)), (.ref b_137)])) rfl (by rw [hml]; rfl) (Steps.refl _) (argsL := [(.int (0 : Int32))]) (rest := []) (lenOf pd_0 rfl) rfl (by show 2 * 0 + _ ≤ _; exact Nat.le_of_eq rfl) (hb hby at_174) (fun _ _ => ⟨rfl, e_149, (by decide : 8 + 0 ≤ _), (by decide : 113 + 0 ≤ _)⟩)
            dsimp only [Pt.U, Pt.locs, Pt.cells, Pt.slots] at X_150 l_150 y_150 z_150 st_150 hQ_150
            subst l_150 y_150 z_150
            obtain ⟨Nq_150, e_150, rfl⟩ := hQ_150
            replace Nf := Fr.app Nf Nq_150
            refine Win.come st_150 ?_
            clear st_150 Nq_150 X_149 e_149
            show Win p.tables e below _ (T_150.setTop (mkF m 177 #[.val (.int p0), .val (.int p1), .val (.int p2), .val (.int p3), .val (.int p4), .val (.int p5), .val (.int xx), .val (.int yy), .val (.int (2 : Int32)), .val (.int zz), .val (.ref b_137), .val (.int (1 : Int32))] [(.int ((updF (updF (updF (updF (fun _ => 0) (0 : Int) (0 : Int32)) (0 : Int) (p2 ||| (1 : Int32))) (1 : Int) (0 : Int32)) (0 : Int) (0 : Int32)) (0 : Int)))]))
            by_cases hc177 : (((updF (updF (updF (updF (fun _ => 0) (0 : Int) (0 : Int32)) (0 : Int) (p2 ||| (1 : Int32))) (1 : Int) (0 : Int32)) (0 : Int) (0 : Int32)) (0 : Int))).toInt = (0 : Int)
            · skip
              refine s_ifNo (pc' := 180) X_150.here hx (hb hby at_177) rfl ((if0 _ _).trans (teqI (x := ((updF (updF (updF (updF (fun _ => 0) (0 : Int) (0 : Int32)) (0 : Int) (p2 ||| (1 : Int32))) (1 : Int) (0 : Int32)) (0 : Int) (0 : Int32)) (0 : Int))) (y := (0 : Int32)) hc177).2) ?_
              refine s_iconst (pc' := 181) (z := (1 : Int32)) X_150.here hx (hb hby at_180) rfl rfl ?_
              refine s_goto (pc' := 185) X_150.here hx (hb hby at_181) (by decide) (by decide) ?_
              refine winN X_150 hx hlk e_150 (t := .boolean) Bd.returns (by simp) (hb hby at_185) (by decide) (by decide) (z' := 1) rfl ⟨Nf, rfl⟩
            · skip
              exfalso
              exact hc177 (by rw [updF_hit]; rfl)
          · skip
            exfalso
            exact hc168 (by rw [hr, updF_hit])
        · skip
          exfalso
          exact hc156 (by rw [updF_hit]; rfl)
      · skip
        exfalso
        exact hc116 rfl
    · skip
      exfalso
      exact hc105 rfl
set_option maxRecDepth 65536 in
set_option maxHeartbeats 40000000 in
theorem comes_1 {Post : Tables → Env → Array Value → State → Outcome → State → Prop} (hpost : ∀ tb e args s v u, (limb_1_1.after args s (.returned v) u = true ∧ limb_1_2.after args s (.returned v) u = true ∧ True) → FrameEnd s (.returned v) u (Jvm.fieldLocs frame_1_writes args s ++ Jvm.arrayLocs frame_1_arrays args s ++ Jvm.staticLocs frame_1_statics s) 24 320 → Post tb e args s (.returned v) u) :
    ArmFor flags0 classFile x code maxLocals ret World_1 tables_1 room_1 Calls_1 rest_1 Pre_1 Post := by
  intro l hfl _ _ p e ha hc hk s m args below hf hA hF happ hP
  obtain ⟨hcalls, hrest, hpre⟩ := hP
  obtain ⟨-, -, -, hnamed, -, -, -, hat⟩ := (Spec.applies_iff hf).mp happ
  obtain ⟨hg, hn⟩ := and_e (Cond.before_iff.mp (show (Jvm.Cond.and given_1 narrow_1).before args s = true from hpre))
  obtain ⟨g1, g2⟩ := and_e hg
  obtain ⟨g3, g4⟩ := and_e g2
  obtain ⟨g5, g6⟩ := and_e g4
  obtain ⟨g7, g8⟩ := and_e g6
  obtain ⟨g9, g10⟩ := and_e g8
  obtain ⟨g11, g12⟩ := and_e g10
  obtain ⟨w0, w1, w2, w3, w4, w5, rfl⟩ : ∃ w0 w1 w2 w3 w4 w5 : Value, args = #[w0, w1, w2, w3, w4, w5] := by
    have hs : args.size = 6 := by simpa [Cond.value, given_1] using g1
    obtain ⟨L⟩ := args
    match L, hs with
    | [w0, w1, w2, w3, w4, w5], _ => exact ⟨w0, w1, w2, w3, w4, w5, rfl⟩
  have hw := fun d (hd : d ∈ tables_1) => atoms_spec (ws := Jvm.Cond.code x code maxLocals ret :: tables_1) hat d (List.mem_cons_of_mem _ hd)
  have hfit : Fit s := fun {y c} hc i hi => by
    obtain ⟨ha, rfl⟩ := Array.getElem?_eq_some_iff.mp hc
    have q := List.all_eq_true.mp ((Array.all_eq_true_iff_forall_mem.mp hF) _ (Array.getElem_mem ha)) i (List.mem_range.mpr hi)
    simpa [Array.getElem?_eq_getElem hi] using q
  obtain ⟨i0, ei0⟩ := is_v g3
  obtain rfl : w0 = (.int i0) := Option.some.inj ei0
  obtain ⟨i1, ei1⟩ := is_v g5
  obtain rfl : w1 = (.int i1) := Option.some.inj ei1
  obtain ⟨i2, ei2⟩ := is_v g7
  obtain rfl : w2 = (.int i2) := Option.some.inj ei2
  obtain ⟨i3, ei3⟩ := is_v g9
  obtain rfl : w3 = (.int i3) := Option.some.inj ei3
  obtain ⟨i4, ei4⟩ := is_v g11
  obtain rfl : w4 = (.int i4) := Option.some.inj ei4
  obtain ⟨i5, ei5⟩ := is_v g12
  obtain rfl : w5 = (.int i5) := Option.some.inj ei5
  obtain ⟨n, o, h1, h2, h3, _, L, rfl, ⟨N, rfl⟩, hq⟩ := rm0 l s _ hw tables_1 i0 i1 i2 i3 i4 i5 s.heap s.heap.size (Nat.le_refl _) p e ha hc hk s m _ below hf ((Spec.applies_iff_loose hf).mp happ).1 ⟨rfl, State.Warmed39.refl s, rfl⟩ trivial
  refine ⟨n, _, h1, h2, h3, hpost _ _ _ _ _ _ ⟨Cond.after_iff.mpr rfl, Cond.after_iff.mpr (eq_i res_at (Term.int_eval (1)) rfl), trivial⟩ ⟨hq.1, hq.2.1, (hq.2.2.sift fun y hy => Or.inr (N y hy)).mono (by decide) (by decide)⟩⟩
theorem main_1_1 : Claimed_1_1 := comes_1 fun _ _ _ _ _ _ h hF => ⟨h.1, hF⟩
theorem main_1_2 : Claimed_1_2 := comes_1 fun _ _ _ _ _ _ h hF => ⟨h.2.1, hF⟩
end Jvm.Pilot.@@N@@
namespace Jvm.Pilot.@@N@@
open Jvm Jvm.ClassFile Sem Op Lib Jvm.Free Jvm.Stand Jvm.Pilot.@@N@@.Jvm.D
/-! MADE BY PROGRAM (witnessworld.py) out of the Statement's table words and the real class files: 11 classes; the members and pool entries that the words name. The judged class is class 1, her method 1. -/
namespace start1
open Jvm.ClassFile
def u (s : String) : CpInfo := .utf8 (stringToUtf16 s)
/-- a pool by its gaps: so many unusable entries, then the entry; so many at the end -/
def gap : Nat → List CpInfo → List CpInfo
  | 0, r => r
  | n + 1, r => .unusable :: gap n r
def poolList (es : List (Nat × CpInfo)) (last : Nat) : List CpInfo := es.foldr (fun e r => gap e.1 (e.2 :: r)) (gap last [])
def pool (es : List (Nat × CpInfo)) (last : Nat) : Array CpInfo := ⟨poolList es last⟩
def fileOf (pool : Array CpInfo) (this : Nat) (attrs : Array Attribute := #[]) (ms : Array MethodInfo := #[]) (fl : Nat := 33) (sup : Nat := 0) (ifs : Array Nat := #[]) (fds : Array FieldInfo := #[]) : ClassFile where
  minorVersion := 0
  majorVersion := 65
  constantPool := pool
  accessFlags := fl
  thisClass := this
  superClass := sup
  interfaces := ifs
  fields := fds
  methods := ms
  attributes := attrs
def plain (name : String) (sup : Option ClassId) : Class where
  name := name
  kind := .ordinary
  loader := none
  accessFlags := 33
  super := sup
  interfaces := #[]
  cf := none
  fields := #[]
  methods := #[]
  instanceTypes := #[]
  staticTypes := #[]
  resolved := #[]
  callSites := []
  init := .initialized
  statics := none
  mirror := none

def pool0 : Array CpInfo := pool [(5, u "<init>"), (0, u "()V"), (1, .class_ 10), (1, u "java/lang/Object")] 113

def k0c0 : Code := { maxStack := 0, maxLocals := 1, code := object_method_1_code, exceptionTable := #[], attributes := #[] }
def k0m0 : Method := { name := "<init>", desc := "()V", sig := { parameters := [], returnType := none }, accessFlags := 1, code := some k0c0 }
/-- java/lang/Object -/
def k0 : Class := { plain "java/lang/Object" none with
  accessFlags := 33
  interfaces := #[]
  cf := some (fileOf pool0 8 #[] #[{ accessFlags := 1, nameIndex := 5, descriptorIndex := 6, attributes := #[] }] 33 0 #[] #[])
  fields := #[]
  methods := #[k0m0]
  instanceTypes := #[]
  staticTypes := #[]
  resolved := Array.replicate 124 none
  statics := none }

def pool1 : Array CpInfo := pool [(2, .class_ 4), (1, u "java/lang/Object"), (0, u "<init>"), (0, u "()V"), (0, .integer 2147483647), (0, .class_ 9), (0, u "com/example/nearstable/nearstable/maximal/Players"), (0, .methodref 8 11), (0, .nameAndType 5 12), (0, u "(I)V"), (0, .methodref 8 14), (0, .nameAndType 15 16), (0, u "add"), (0, u "(II)V"), (0, .methodref 8 18), (0, .nameAndType 19 16), (0, u "match"), (0, .methodref 8 21), (0, .nameAndType 22 6), (0, u "clear"), (0, .methodref 8 24), (0, .nameAndType 25 26), (0, u "slots"), (0, u "()I"), (0, .methodref 8 28), (0, .nameAndType 29 30), (0, u "slot"), (0, u "(I)I"), (0, .methodref 8 32), (0, .nameAndType 33 34), (0, u "edge"), (0, u "(II)I"), (0, .methodref 8 36), (0, .nameAndType 37 30), (0, u "partner"), (0, .class_ 39), (0, u "com/example/nearstable/nearstable/maximal/PlayersClearPinLaw"), (2, u "law"), (0, u "(IIIIII)Z")] 3

def k1m0 : Method := { name := "<init>", desc := "()V", sig := { parameters := [], returnType := none }, accessFlags := 1, code := none }
def k1c1 : Code := { maxStack := 4, maxLocals := 12, code := code, exceptionTable := #[], attributes := #[] }
def k1m1 : Method := { name := "law", desc := "(IIIIII)Z", sig := { parameters := [.int, .int, .int, .int, .int, .int], returnType := some .boolean }, accessFlags := 9, code := some k1c1 }
/-- com/example/nearstable/nearstable/maximal/PlayersClearPinLaw -/
def k1 : Class := { plain "com/example/nearstable/nearstable/maximal/PlayersClearPinLaw" (some 0) with
  accessFlags := 49
  interfaces := #[]
  cf := some (fileOf pool1 38 #[] #[{ accessFlags := 1, nameIndex := 5, descriptorIndex := 6, attributes := #[] }, { accessFlags := 9, nameIndex := 42, descriptorIndex := 43, attributes := #[] }] 49 2 #[] #[])
  fields := #[]
  methods := #[k1m0, k1m1]
  instanceTypes := #[]
  staticTypes := #[]
  resolved := Array.replicate 47 none
  statics := none }

def pool2 : Array CpInfo := pool [(1, .methodref 2 3), (0, .class_ 4), (0, .nameAndType 5 6), (0, u "java/lang/Object"), (0, u "<init>"), (0, u "()V"), (0, .fieldref 8 9), (0, .class_ 10), (0, .nameAndType 11 12), (0, u "com/example/nearstable/nearstable/maximal/Players"), (0, u "player"), (0, u "[I"), (0, .fieldref 8 14), (0, .nameAndType 15 12), (0, u "first"), (0, .fieldref 8 17), (0, .nameAndType 18 12), (0, u "degree"), (0, .fieldref 8 20), (0, .nameAndType 21 12), (0, u "edges"), (0, .fieldref 8 23), (0, .nameAndType 24 12), (0, u "partner"), (0, .fieldref 8 26), (0, .nameAndType 27 28), (0, u "edgeLeft"), (0, u "[Z"), (0, .fieldref 8 30), (0, .nameAndType 31 12), (0, u "slotPlus1"), (0, .methodref 8 33), (0, .nameAndType 34 35), (0, u "newSlot"), (0, u "(I)I"), (0, .fieldref 8 37), (0, .nameAndType 38 39), (0, u "slots"), (0, u "I"), (0, .fieldref 8 41), (0, .nameAndType 42 39), (0, u "edgeCount"), (14, u "(II)I"), (17, u "(I)V"), (2, u "add"), (0, u "(II)V"), (1, u "()I"), (2, u "slot"), (0, u "edge"), (0, u "match"), (3, u "clear")] 17

def k2c0 : Code := { maxStack := 3, maxLocals := 2, code := prog_53_method_1_code, exceptionTable := #[], attributes := #[] }
def k2m0 : Method := { name := "<init>", desc := "(I)V", sig := { parameters := [.int], returnType := none }, accessFlags := 0, code := some k2c0 }
def k2c1 : Code := { maxStack := 5, maxLocals := 4, code := prog_53_method_2_code, exceptionTable := #[], attributes := #[] }
def k2m1 : Method := { name := "add", desc := "(II)V", sig := { parameters := [.int, .int], returnType := none }, accessFlags := 1, code := some k2c1 }
def k2c2 : Code := { maxStack := 1, maxLocals := 1, code := prog_53_method_3_code, exceptionTable := #[], attributes := #[] }
def k2m2 : Method := { name := "slots", desc := "()I", sig := { parameters := [], returnType := some .int }, accessFlags := 1, code := some k2c2 }
def k2c3 : Code := { maxStack := 2, maxLocals := 2, code := prog_53_method_5_code, exceptionTable := #[], attributes := #[] }
def k2m3 : Method := { name := "partner", desc := "(I)I", sig := { parameters := [.int], returnType := some .int }, accessFlags := 1, code := some k2c3 }
def k2c4 : Code := { maxStack := 2, maxLocals := 2, code := prog_53_method_7_code, exceptionTable := #[], attributes := #[] }
def k2m4 : Method := { name := "slot", desc := "(I)I", sig := { parameters := [.int], returnType := some .int }, accessFlags := 0, code := some k2c4 }
def k2c5 : Code := { maxStack := 3, maxLocals := 3, code := prog_53_method_9_code, exceptionTable := #[], attributes := #[] }
def k2m5 : Method := { name := "edge", desc := "(II)I", sig := { parameters := [.int, .int], returnType := some .int }, accessFlags := 0, code := some k2c5 }
def k2c6 : Code := { maxStack := 3, maxLocals := 3, code := prog_53_method_10_code, exceptionTable := #[], attributes := #[] }
def k2m6 : Method := { name := "match", desc := "(II)V", sig := { parameters := [.int, .int], returnType := none }, accessFlags := 0, code := some k2c6 }
def k2c7 : Code := { maxStack := 3, maxLocals := 2, code := prog_53_method_13_code, exceptionTable := #[], attributes := #[] }
def k2m7 : Method := { name := "clear", desc := "()V", sig := { parameters := [], returnType := none }, accessFlags := 0, code := some k2c7 }
def k2c8 : Code := { maxStack := 4, maxLocals := 3, code := prog_53_method_14_code, exceptionTable := #[], attributes := #[] }
def k2m8 : Method := { name := "newSlot", desc := "(I)I", sig := { parameters := [.int], returnType := some .int }, accessFlags := 2, code := some k2c8 }
/-- com/example/nearstable/nearstable/maximal/Players -/
def k2 : Class := { plain "com/example/nearstable/nearstable/maximal/Players" (some 0) with
  accessFlags := 49
  interfaces := #[]
  cf := some (fileOf pool2 8 #[] #[{ accessFlags := 0, nameIndex := 5, descriptorIndex := 75, attributes := #[] }, { accessFlags := 1, nameIndex := 78, descriptorIndex := 79, attributes := #[] }, { accessFlags := 1, nameIndex := 38, descriptorIndex := 81, attributes := #[] }, { accessFlags := 1, nameIndex := 24, descriptorIndex := 35, attributes := #[] }, { accessFlags := 0, nameIndex := 84, descriptorIndex := 35, attributes := #[] }, { accessFlags := 0, nameIndex := 85, descriptorIndex := 57, attributes := #[] }, { accessFlags := 0, nameIndex := 86, descriptorIndex := 79, attributes := #[] }, { accessFlags := 0, nameIndex := 90, descriptorIndex := 6, attributes := #[] }, { accessFlags := 2, nameIndex := 34, descriptorIndex := 35, attributes := #[] }] 49 2 #[] #[{ accessFlags := 18, nameIndex := 31, descriptorIndex := 12, attributes := #[] }, { accessFlags := 2, nameIndex := 38, descriptorIndex := 39, attributes := #[] }, { accessFlags := 2, nameIndex := 11, descriptorIndex := 12, attributes := #[] }, { accessFlags := 2, nameIndex := 15, descriptorIndex := 12, attributes := #[] }, { accessFlags := 2, nameIndex := 18, descriptorIndex := 12, attributes := #[] }, { accessFlags := 2, nameIndex := 42, descriptorIndex := 39, attributes := #[] }, { accessFlags := 2, nameIndex := 21, descriptorIndex := 12, attributes := #[] }, { accessFlags := 2, nameIndex := 24, descriptorIndex := 12, attributes := #[] }, { accessFlags := 2, nameIndex := 27, descriptorIndex := 28, attributes := #[] }])
  fields := #[{ name := "slotPlus1", type := (.array .int), accessFlags := 18, slot := 0, constantValue := 0 }, { name := "slots", type := .int, accessFlags := 2, slot := 1, constantValue := 0 }, { name := "player", type := (.array .int), accessFlags := 2, slot := 2, constantValue := 0 }, { name := "first", type := (.array .int), accessFlags := 2, slot := 3, constantValue := 0 }, { name := "degree", type := (.array .int), accessFlags := 2, slot := 4, constantValue := 0 }, { name := "edgeCount", type := .int, accessFlags := 2, slot := 5, constantValue := 0 }, { name := "edges", type := (.array .int), accessFlags := 2, slot := 6, constantValue := 0 }, { name := "partner", type := (.array .int), accessFlags := 2, slot := 7, constantValue := 0 }, { name := "edgeLeft", type := (.array .boolean), accessFlags := 2, slot := 8, constantValue := 0 }]
  methods := #[k2m0, k2m1, k2m2, k2m3, k2m4, k2m5, k2m6, k2m7, k2m8]
  instanceTypes := #[(.array .int), .int, (.array .int), (.array .int), (.array .int), .int, (.array .int), (.array .int), (.array .boolean)]
  staticTypes := #[]
  resolved := Array.replicate 108 none
  statics := none }

def pool3 : Array CpInfo := pool [(1, u "java/lang/Cloneable"), (0, .class_ 1), (0, u "java/lang/Object"), (0, .class_ 3)] 3

/-- java/lang/Cloneable -/
def k3 : Class := { plain "java/lang/Cloneable" (some 0) with
  accessFlags := 1537
  interfaces := #[]
  cf := some (fileOf pool3 2 #[] #[] 1537 4 #[] #[])
  fields := #[]
  methods := #[]
  instanceTypes := #[]
  staticTypes := #[]
  resolved := Array.replicate 8 none
  statics := none }

def pool4 : Array CpInfo := pool [(1, u "java/io/Serializable"), (0, .class_ 1), (0, u "java/lang/Object"), (0, .class_ 3)] 3

/-- java/io/Serializable -/
def k4 : Class := { plain "java/io/Serializable" (some 0) with
  accessFlags := 1537
  interfaces := #[]
  cf := some (fileOf pool4 2 #[] #[] 1537 4 #[] #[])
  fields := #[]
  methods := #[]
  instanceTypes := #[]
  staticTypes := #[]
  resolved := Array.replicate 8 none
  statics := none }

/-- the primitive boolean -/
def k5 : Class := { plain "boolean" none with kind := .primitive 'Z', accessFlags := 0x411 }
/-- [Z -/
def k6 : Class := { plain "[Z" (some 0) with kind := .array 5 .boolean, interfaces := #[3, 4], accessFlags := 1041 }

/-- the primitive byte -/
def k7 : Class := { plain "byte" none with kind := .primitive 'B', accessFlags := 0x411 }
/-- [B -/
def k8 : Class := { plain "[B" (some 0) with kind := .array 7 .byte, interfaces := #[3, 4], accessFlags := 1041 }

/-- the primitive int -/
def k9 : Class := { plain "int" none with kind := .primitive 'I', accessFlags := 0x411 }
/-- [I -/
def k10 : Class := { plain "[I" (some 0) with kind := .array 9 .int, interfaces := #[3, 4], accessFlags := 1041 }

def heap : Heap := #[]
def classes : Array Class := #[k0, k1, k2, k3, k4, k5, k6, k7, k8, k9, k10]
def interned : List (Array UInt16 × Addr) := []
def slotsUsed : Nat := 0
def theMethod : MethodId := ⟨1, 1⟩
def args0 : Array Value := #[.int 5, .int 5, .int 5, .int 5, .int 5, .int 5]
def aboutOver (below : List Frame) : State where
  vm := { classes := classes, interned := interned.toArray }
  heap := heap
  slotsUsed := slotsUsed
  threads := #[{ frames := .invoking theMethod args0 :: below }]
def below0 : List Frame := [.native { method := ⟨0, 0⟩, args := #[] }]
def about1 : State := aboutOver below0
def p0 : Program := .bare "" "" ""
def e0 : Env := launch0.env 0 0 0
theorem w_frames : about1.frames = Frame.invoking theMethod args0 :: below0 := rfl
set_option maxRecDepth 65536 in
theorem w_args : argsFit about1.vm theMethod args0 = true := by decide +kernel
set_option maxRecDepth 65536 in
theorem w_heap : heapFits about1 = true := by decide +kernel
set_option maxRecDepth 65536 in
theorem w_runnable : about1.curStatus? = some .runnable := by decide +kernel
set_option maxRecDepth 65536 in
theorem w_alone : about1.alone = true := by decide +kernel
set_option maxRecDepth 65536 in
theorem w_named : about1.methodNamed? x = some theMethod := by decide +kernel
set_option maxRecDepth 65536 in
theorem w_hears : about1.hears theMethod below0 = true := by decide +kernel
set_option maxRecDepth 65536 in
theorem w_ripe : about1.ripe theMethod args0 below0 = true := by decide +kernel
theorem w_running : about1.status = .running := rfl
set_option maxRecDepth 65536 in
theorem w_room : about1.hasRoom e0.platform room_1 = true :=
  launch0.hasRoom_least _ room_1 (by decide +kernel) (by decide +kernel) (by decide +kernel) (by decide +kernel) (by decide +kernel) (by decide +kernel)
theorem allAtoms_all (ts : List Jvm.Cond) (a : Array Jvm.Value) (st : Jvm.State) : (allAtoms ts).before a st = ts.all (fun c => c.before a st) := by
  induction ts with
  | nil => rfl
  | cons c t ih =>
    show (Jvm.Cond.and c (allAtoms t)).before a st = _
    rw [Jvm.Cond.before_and, ih, List.all_cons]
def words1 : List Jvm.Cond := Jvm.Cond.code x code maxLocals ret :: tables_1
/-- a 'code' word, met by the world's own term for the bytes: nothing is compared byte by byte -/
theorem code_word {y : MethodName} {bytes : ByteArray} {mx : Nat} {rt : Option FieldType} {a : Array Value} {s : State} {m : MethodId} {meth : Method} {c : Code} (h1 : s.methodNamed? y = some m) (h2 : s.vm.method? m = some meth) (h3 : meth.code = some c) (h4 : c.code = bytes)
    (h5 : (c.maxLocals == mx && c.exceptionTable.isEmpty && decide (c.maxStack ≤ mostOperands) && decide (meth.sig.returnType = rt) && !meth.locks && decide (parseMethodDescriptor y.desc = some meth.sig)) = true) : (Jvm.Cond.code y bytes mx rt).before a s = true := by
  simp only [Bool.and_eq_true, beq_iff_eq, Bool.not_eq_true', decide_eq_true_eq] at h5
  obtain ⟨⟨⟨⟨⟨g1, g2⟩, g3⟩, g4⟩, g5⟩, g6⟩ := h5
  simp [Cond.before, Cond.holds, Cond.value, h1, h2, h3, h4, g1, g2, g3, g4, g5, g6]
def isCode : Jvm.Cond → Bool
  | .code _ _ _ _ => true
  | _ => false
theorem all_split {L : List Jvm.Cond} {P : Jvm.Cond → Bool} (h1 : L.all (fun c => isCode c || P c) = true) (h2 : ∀ c ∈ L.filter isCode, P c = true) : L.all P = true := by
  refine List.all_eq_true.mpr fun c hc => ?_
  have h := List.all_eq_true.mp h1 c hc
  rcases Bool.eq_false_or_eq_true (isCode c) with hi | hi
  · exact h2 c (List.mem_filter.mpr ⟨hc, hi⟩)
  · simpa [hi] using h
set_option maxRecDepth 65536 in
theorem w_c0 : (Jvm.Cond.code x code maxLocals ret).before args0 about1 = true := code_word (m := ⟨1, 1⟩) (meth := k1m1) (c := k1c1) (by decide +kernel) rfl rfl rfl (by decide +kernel)
set_option maxRecDepth 65536 in
theorem w_c1 : (Jvm.Cond.code ({ cls := "com/example/nearstable/nearstable/maximal/Players", name := "<init>", desc := "(I)V" } : Jvm.MethodName) prog_53_method_1_code (2 : Nat) (Option.none : Option Jvm.ClassFile.FieldType)).before args0 about1 = true := code_word (m := ⟨2, 0⟩) (meth := k2m0) (c := k2c0) (by decide +kernel) rfl rfl rfl (by decide +kernel)
set_option maxRecDepth 65536 in
theorem w_c2 : (Jvm.Cond.code ({ cls := "java/lang/Object", name := "<init>", desc := "()V" } : Jvm.MethodName) object_method_1_code (1 : Nat) (Option.none : Option Jvm.ClassFile.FieldType)).before args0 about1 = true := code_word (m := ⟨0, 0⟩) (meth := k0m0) (c := k0c0) (by decide +kernel) rfl rfl rfl (by decide +kernel)
set_option maxRecDepth 65536 in
theorem w_c3 : (Jvm.Cond.code ({ cls := "com/example/nearstable/nearstable/maximal/Players", name := "clear", desc := "()V" } : Jvm.MethodName) prog_53_method_13_code (2 : Nat) (Option.none : Option Jvm.ClassFile.FieldType)).before args0 about1 = true := code_word (m := ⟨2, 7⟩) (meth := k2m7) (c := k2c7) (by decide +kernel) rfl rfl rfl (by decide +kernel)
set_option maxRecDepth 65536 in
theorem w_c4 : (Jvm.Cond.code ({ cls := "com/example/nearstable/nearstable/maximal/Players", name := "slots", desc := "()I" } : Jvm.MethodName) prog_53_method_3_code (1 : Nat) (Option.some Jvm.ClassFile.FieldType.int)).before args0 about1 = true := code_word (m := ⟨2, 2⟩) (meth := k2m2) (c := k2c2) (by decide +kernel) rfl rfl rfl (by decide +kernel)
set_option maxRecDepth 65536 in
theorem w_c5 : (Jvm.Cond.code ({ cls := "com/example/nearstable/nearstable/maximal/Players", name := "slot", desc := "(I)I" } : Jvm.MethodName) prog_53_method_7_code (2 : Nat) (Option.some Jvm.ClassFile.FieldType.int)).before args0 about1 = true := code_word (m := ⟨2, 4⟩) (meth := k2m4) (c := k2c4) (by decide +kernel) rfl rfl rfl (by decide +kernel)
set_option maxRecDepth 65536 in
theorem w_c6 : (Jvm.Cond.code ({ cls := "com/example/nearstable/nearstable/maximal/Players", name := "add", desc := "(II)V" } : Jvm.MethodName) prog_53_method_2_code (4 : Nat) (Option.none : Option Jvm.ClassFile.FieldType)).before args0 about1 = true := code_word (m := ⟨2, 1⟩) (meth := k2m1) (c := k2c1) (by decide +kernel) rfl rfl rfl (by decide +kernel)
set_option maxRecDepth 65536 in
theorem w_c7 : (Jvm.Cond.code ({ cls := "com/example/nearstable/nearstable/maximal/Players", name := "newSlot", desc := "(I)I" } : Jvm.MethodName) prog_53_method_14_code (3 : Nat) (Option.some Jvm.ClassFile.FieldType.int)).before args0 about1 = true := code_word (m := ⟨2, 8⟩) (meth := k2m8) (c := k2c8) (by decide +kernel) rfl rfl rfl (by decide +kernel)
set_option maxRecDepth 65536 in
theorem w_c8 : (Jvm.Cond.code ({ cls := "com/example/nearstable/nearstable/maximal/Players", name := "edge", desc := "(II)I" } : Jvm.MethodName) prog_53_method_9_code (3 : Nat) (Option.some Jvm.ClassFile.FieldType.int)).before args0 about1 = true := code_word (m := ⟨2, 5⟩) (meth := k2m5) (c := k2c5) (by decide +kernel) rfl rfl rfl (by decide +kernel)
set_option maxRecDepth 65536 in
theorem w_c9 : (Jvm.Cond.code ({ cls := "com/example/nearstable/nearstable/maximal/Players", name := "partner", desc := "(I)I" } : Jvm.MethodName) prog_53_method_5_code (2 : Nat) (Option.some Jvm.ClassFile.FieldType.int)).before args0 about1 = true := code_word (m := ⟨2, 3⟩) (meth := k2m3) (c := k2c3) (by decide +kernel) rfl rfl rfl (by decide +kernel)
set_option maxRecDepth 65536 in
theorem w_c10 : (Jvm.Cond.code ({ cls := "com/example/nearstable/nearstable/maximal/Players", name := "match", desc := "(II)V" } : Jvm.MethodName) prog_53_method_10_code (3 : Nat) (Option.none : Option Jvm.ClassFile.FieldType)).before args0 about1 = true := code_word (m := ⟨2, 6⟩) (meth := k2m6) (c := k2c6) (by decide +kernel) rfl rfl rfl (by decide +kernel)
def codes1 : List Jvm.Cond := [Jvm.Cond.code x code maxLocals ret, Jvm.Cond.code ({ cls := "com/example/nearstable/nearstable/maximal/Players", name := "<init>", desc := "(I)V" } : Jvm.MethodName) prog_53_method_1_code (2 : Nat) (Option.none : Option Jvm.ClassFile.FieldType), Jvm.Cond.code ({ cls := "java/lang/Object", name := "<init>", desc := "()V" } : Jvm.MethodName) object_method_1_code (1 : Nat) (Option.none : Option Jvm.ClassFile.FieldType), Jvm.Cond.code ({ cls := "com/example/nearstable/nearstable/maximal/Players", name := "clear", desc := "()V" } : Jvm.MethodName) prog_53_method_13_code (2 : Nat) (Option.none : Option Jvm.ClassFile.FieldType), Jvm.Cond.code ({ cls := "com/example/nearstable/nearstable/maximal/Players", name := "slots", desc := "()I" } : Jvm.MethodName) prog_53_method_3_code (1 : Nat) (Option.some Jvm.ClassFile.FieldType.int), Jvm.Cond.code ({ cls := "com/example/nearstable/nearstable/maximal/Players", name := "slot", desc := "(I)I" } : Jvm.MethodName) prog_53_method_7_code (2 : Nat) (Option.some Jvm.ClassFile.FieldType.int), Jvm.Cond.code ({ cls := "com/example/nearstable/nearstable/maximal/Players", name := "add", desc := "(II)V" } : Jvm.MethodName) prog_53_method_2_code (4 : Nat) (Option.none : Option Jvm.ClassFile.FieldType), Jvm.Cond.code ({ cls := "com/example/nearstable/nearstable/maximal/Players", name := "newSlot", desc := "(I)I" } : Jvm.MethodName) prog_53_method_14_code (3 : Nat) (Option.some Jvm.ClassFile.FieldType.int), Jvm.Cond.code ({ cls := "com/example/nearstable/nearstable/maximal/Players", name := "edge", desc := "(II)I" } : Jvm.MethodName) prog_53_method_9_code (3 : Nat) (Option.some Jvm.ClassFile.FieldType.int), Jvm.Cond.code ({ cls := "com/example/nearstable/nearstable/maximal/Players", name := "partner", desc := "(I)I" } : Jvm.MethodName) prog_53_method_5_code (2 : Nat) (Option.some Jvm.ClassFile.FieldType.int), Jvm.Cond.code ({ cls := "com/example/nearstable/nearstable/maximal/Players", name := "match", desc := "(II)V" } : Jvm.MethodName) prog_53_method_10_code (3 : Nat) (Option.none : Option Jvm.ClassFile.FieldType)]
set_option maxRecDepth 65536 in
theorem codes_eq : words1.filter isCode = codes1 := rfl
theorem w_codes : ∀ c ∈ words1.filter isCode, c.before args0 about1 = true := by
  rw [codes_eq]
  intro c hc
  simp only [codes1, List.mem_cons, List.not_mem_nil, or_false] at hc
  rcases hc with rfl | rfl | rfl | rfl | rfl | rfl | rfl | rfl | rfl | rfl | rfl
  · exact w_c0
  · exact w_c1
  · exact w_c2
  · exact w_c3
  · exact w_c4
  · exact w_c5
  · exact w_c6
  · exact w_c7
  · exact w_c8
  · exact w_c9
  · exact w_c10
set_option maxRecDepth 65536 in
theorem w_t1 : (words1.take 24).all (fun c => isCode c || c.before args0 about1) = true := by decide +kernel
set_option maxRecDepth 65536 in
theorem w_t2 : ((words1.drop 24).take 24).all (fun c => isCode c || c.before args0 about1) = true := by decide +kernel
set_option maxRecDepth 65536 in
theorem w_t3 : ((words1.drop 24).drop 24).all (fun c => isCode c || c.before args0 about1) = true := by decide +kernel
theorem w_tables : (allAtoms (Jvm.Cond.code x code maxLocals ret :: tables_1)).before args0 about1 = true := by
  rw [allAtoms_all]
  show words1.all (fun c => c.before args0 about1) = true
  refine all_split ?_ w_codes
  rw [← List.take_append_drop 24 words1, List.all_append, w_t1, ← List.take_append_drop 24 (words1.drop 24), List.all_append, w_t2, w_t3]
  rfl
set_option maxRecDepth 65536 in
theorem w_case : (Jvm.Cond.and given_1 narrow_1).before args0 about1 = true := by decide +kernel
theorem w_applies : (headSpec (Jvm.Cond.code x code maxLocals ret :: tables_1) room_1).applies x e0.platform about1 = true :=
  (Spec.applies_iff w_frames).mpr ⟨w_running, w_runnable, w_alone, w_named, w_hears, w_ripe, w_room, w_tables⟩
theorem atStart : AtStart classFile x code maxLocals ret World_1 tables_1 room_1 Calls_1 rest_1 Pre_1 launch0 p0 e0 about1 theMethod args0 below0 :=
  ⟨lists_1, trivial, launch0.admits_env _ _ _, launch0.least_env, fairChoices_fair.cas, fairChoices_fair.clock, w_frames, w_args, w_heap, w_applies, trivial, trivial, w_case⟩
end start1
theorem witness_1 : WitnessClaimed_1 := ⟨start1.p0, start1.e0, start1.about1, start1.theMethod, start1.args0, start1.below0, start1.atStart⟩
end Jvm.Pilot.@@N@@
