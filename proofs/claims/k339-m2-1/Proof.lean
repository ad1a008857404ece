import JvmDerived
import JvmDerived.Pilot.@@N@@Statement
import JvmDerived.Pilot.@@N@@Code
set_option linter.unusedVariables false
set_option linter.unusedSimpArgs false
namespace Jvm.OwnWalk
open Sem ClassFile Op Lib Jvm.Stand Jvm.Free Jvm.LawKit Jvm.RoadKit
/-- from t the run comes to an end of which P holds -/
def Win (tb : Tables) (e : Env) (below : List Frame) (P : State → Outcome → Prop) (t : State) : Prop :=
  ∃ s₂ o, Steps tb e below t s₂ ∧ s₂.status = .running ∧ Ended s₂ below o ∧ P s₂ o
theorem Win.go {tb : Tables} {e : Env} {below : List Frame} {P : State → Outcome → Prop} {t t' : State} (st : ∀ z, Steps tb e below t' z → Steps tb e below t z) (w : Win tb e below P t') : Win tb e below P t := by
  obtain ⟨s2, o, h, r⟩ := w; exact ⟨s2, o, st _ h, r⟩
theorem Win.come {tb : Tables} {e : Env} {below : List Frame} {P : State → Outcome → Prop} {t t' : State} (st : Steps tb e below t t') (w : Win tb e below P t') : Win tb e below P t := by
  obtain ⟨s2, o, h, r⟩ := w; exact ⟨s2, o, st.trans h, r⟩
/-- the body has returned v with the heap h, L written -/
def PostQ (s : State) (Q : Option Value → Heap → List Loc → Prop) (C S : Nat) (u : State) (o : Outcome) : Prop := ∃ v L, o = .returned v ∧ Q v u.heap L ∧ FrameEnd s o u L C S
section Ret
variable {p : Program} {l : Launch} {e : Env} {R : Room} {s : State} {m : MethodId} {args : Array Value} {below : List Frame} {meth : Method} {c : Code} {T : State} {locs : List Loc} {cells slots : Nat} {h : Heap} {Q : Option Value → Heap → List Loc → Prop} {C S : Nat}
theorem retI' (X : Stand p l e R s m args below meth c T locs cells slots) (hx : p.tables.exec = Jvm.exec) {pc : Nat} {Ls : Array Slot} {z : Int32} {rest : List Value} (hret : meth.sig.returnType = some .int) (hd : decode c.code pc = .ok (.ireturn, 1)) {fs : List Frame}
    (hl : ∀ (f : JFrame) (acts : List Action), f.method = m → f.locked = none → f.entered = [] → (doReturn e (T.setTop f) acts (some (.int z))).1 = T.setFrames fs) : Steps p.tables e below (T.setTop (mkF m pc Ls (.int z :: rest))) (T.setFrames fs) := by
  have hm' : T.vm.method? m = some meth := X.method'
  have hn : narrow .int (.int z) = .int z := rfl
  show Steps p.tables e below (T.setTop { method := m, pc := pc, locals := Ls, stack := _ :: rest, locked := none }) _
  jvm_step X.here [X.here.top, hx, hd, hm', hret, hn]
  first | (intro acts; rw [hl _ acts rfl rfl rfl]) | rw [hl _ _ rfl rfl rfl]
  exact Steps.refl _
theorem retA' (X : Stand p l e R s m args below meth c T locs cells slots) (hx : p.tables.exec = Jvm.exec) {pc : Nat} {Ls : Array Slot} {w : Value} {t : FieldType} (hret : meth.sig.returnType = some t) (ht : t.isReference = true) (hv : w.isRef = true) (hd : decode c.code pc = .ok (.areturn, 1)) {fs : List Frame}
    (hl : ∀ (f : JFrame) (acts : List Action), f.method = m → f.locked = none → f.entered = [] → (doReturn e (T.setTop f) acts (some w)).1 = T.setFrames fs) : Steps p.tables e below (T.setTop (mkF m pc Ls [w])) (T.setFrames fs) := by
  have hm' : T.vm.method? m = some meth := X.method'
  show Steps p.tables e below (T.setTop { method := m, pc := pc, locals := Ls, stack := [w], locked := none }) _
  jvm_step X.here [X.here.top, hx, hd, hm', hret, hv, ht]
  first | (intro acts; rw [hl _ acts rfl rfl rfl]) | rw [hl _ _ rfl rfl rfl]
  exact Steps.refl _
theorem winI (X : Stand p l e R s m args below meth c T locs cells slots) (hx : p.tables.exec = Jvm.exec) (hlk : meth.locks = false) (eT : T.heap = h) {pc : Nat} {Ls : Array Slot} {z : Int32} {rest : List Value} (hret : meth.sig.returnType = some .int) (hd : decode c.code pc = .ok (.ireturn, 1))
    (hc : cells ≤ C) (hs : slots ≤ S) (hQ : Q (some (.int z)) h locs) : Win p.tables e below (PostQ s Q C S) (T.setTop (mkF m pc Ls (.int z :: rest))) := by
  subst eT
  obtain ⟨fs, hr, hrun, hended, hW, hsame⟩ := X.leave (v := some (.int z)) (fun h => by rw [hret] at h; cases h) hlk
  exact ⟨_, _, retI' X hx hret hd hr, hrun, hended, _, _, rfl, hQ, ⟨_, rfl⟩, hW, hsame.mono hc hs⟩
theorem winN (X : Stand p l e R s m args below meth c T locs cells slots) (hx : p.tables.exec = Jvm.exec) (hlk : meth.locks = false) (eT : T.heap = h) {pc : Nat} {Ls : Array Slot} {z z' : Int32} {rest : List Value} {t : FieldType} (hret : meth.sig.returnType = some t) (ht : t = .boolean ∨ t = .byte ∨ t = .char ∨ t = .short) (hd : decode c.code pc = .ok (.ireturn, 1))
    (hc : cells ≤ C) (hs : slots ≤ S) (hz : nar t z = z') (hQ : Q (some (.int z')) h locs) : Win p.tables e below (PostQ s Q C S) (T.setTop (mkF m pc Ls (.int z :: rest))) := by
  subst eT hz
  obtain ⟨fs, hr, hrun, hended, hW, hsame⟩ := X.leave (v := some (.int (nar t z))) (fun h => by rw [hret] at h; cases h) hlk
  exact ⟨_, _, retN X hx hret ht hd hr, hrun, hended, _, _, rfl, hQ, ⟨_, rfl⟩, hW, hsame.mono hc hs⟩
theorem winL (X : Stand p l e R s m args below meth c T locs cells slots) (hx : p.tables.exec = Jvm.exec) (hlk : meth.locks = false) (eT : T.heap = h) {pc : Nat} {Ls : Array Slot} {z : Int64} (hret : meth.sig.returnType = some .long) (hd : decode c.code pc = .ok (.lreturn, 1))
    (hc : cells ≤ C) (hs : slots ≤ S) (hQ : Q (some (.long z)) h locs) : Win p.tables e below (PostQ s Q C S) (T.setTop (mkF m pc Ls [.long z])) := by
  subst eT
  obtain ⟨fs, hr, hrun, hended, hW, hsame⟩ := X.leave (v := some (.long z)) (fun h => by rw [hret] at h; cases h) hlk
  exact ⟨_, _, X.lreturnOut hx hret hd hr, hrun, hended, _, _, rfl, hQ, ⟨_, rfl⟩, hW, hsame.mono hc hs⟩
theorem winA (X : Stand p l e R s m args below meth c T locs cells slots) (hx : p.tables.exec = Jvm.exec) (hlk : meth.locks = false) (eT : T.heap = h) {pc : Nat} {Ls : Array Slot} {w : Value} {t : FieldType} (hret : meth.sig.returnType = some t) (ht : t.isReference = true) (hv : w.isRef = true) (hd : decode c.code pc = .ok (.areturn, 1))
    (hc : cells ≤ C) (hs : slots ≤ S) (hQ : Q (some w) h locs) : Win p.tables e below (PostQ s Q C S) (T.setTop (mkF m pc Ls [w])) := by
  subst eT
  obtain ⟨fs, hr, hrun, hended, hW, hsame⟩ := X.leave (v := some w) (fun h => by rw [hret] at h; cases h) hlk
  exact ⟨_, _, retA' X hx hret ht hv hd hr, hrun, hended, _, _, rfl, hQ, ⟨_, rfl⟩, hW, hsame.mono hc hs⟩
theorem winV (X : Stand p l e R s m args below meth c T locs cells slots) (hx : p.tables.exec = Jvm.exec) (hlk : meth.locks = false) (eT : T.heap = h) {pc : Nat} {Ls : Array Slot} (hret : meth.sig.returnType = none) (hd : decode c.code pc = .ok (.return_, 1))
    (hc : cells ≤ C) (hs : slots ≤ S) (hQ : Q none h locs) : Win p.tables e below (PostQ s Q C S) (T.setTop (mkF m pc Ls [])) := by
  subst eT
  obtain ⟨fs, hr, hrun, hended, hW, hsame⟩ := X.leave (v := none) (fun _ => rfl) hlk
  exact ⟨_, _, X.returnOut hx hret hd hr, hrun, hended, _, _, rfl, hQ, ⟨_, rfl⟩, hW, hsame.mono hc hs⟩
def PostQW (s : State) (Q : Option Value → Heap → List Loc → Prop) (C S : Nat) (u : State) (o : Outcome) : Prop := ∃ v L, o = .returned v ∧ Q v u.heap L ∧ ReturnedEndW s o u L C S
theorem winNW {vm0 : Vm} {k0 : Nat} (hS : s.Since vm0 k0) (hk : k0 ≤ h.size) (X : Stand p l e R (s.setVm vm0) m args below meth c T locs cells slots) (hx : p.tables.exec = Jvm.exec) (hlk : meth.locks = false) (eT : T.heap = h) {pc : Nat} {Ls : Array Slot} {z z' : Int32} {rest : List Value} {t : FieldType} (hret : meth.sig.returnType = some t) (ht : t = .boolean ∨ t = .byte ∨ t = .char ∨ t = .short) (hd : decode c.code pc = .ok (.ireturn, 1))
    (hc : cells ≤ C) (hs : slots ≤ S) (hz : nar t z = z') (hQ : Q (some (.int z')) h locs) : Win p.tables e below (PostQW s Q C S) (T.setTop (mkF m pc Ls (.int z :: rest))) := by
  subst eT hz
  obtain ⟨fs, hr, hrun, hended, h1, h2, h3, h4⟩ := X.leaveW hS hk (v := some (.int (nar t z))) (fun h => by rw [hret] at h; cases h) hlk
  exact ⟨_, _, retN X hx hret ht hd hr, hrun, hended, _, _, rfl, hQ, ⟨_, rfl⟩, h2, h3, h4.mono hc hs⟩
end Ret
section Steps
variable {tb : Tables} [Ours tb] {e : Env} {below : List Frame} {P : State → Outcome → Prop} {T : State} {m : MethodId} {c : Code} {pc pc' : Nat} {ls : Array Slot} {st : List Value}
theorem s_iloadN {k : Fin 4} {v : Int32} (h : At T m c below) (hx : tb.exec = Jvm.exec) (hd : decode c.code pc = .ok (.iload_n k, 1)) (hp : pc + 1 = pc') (hl : ls[k.val]? = some (.val (.int v))) (w : Win tb e below P (T.setTop (mkF m pc' ls (.int v :: st)))) : Win tb e below P (T.setTop (mkF m pc ls st)) := by
  subst hp; exact Win.go (fun _ k => XS.iloadN h hx rfl hd hl k) w
theorem s_iload {k : Nat} {v : Int32} (h : At T m c below) (hx : tb.exec = Jvm.exec) (hd : decode c.code pc = .ok (.iload k, 2)) (hp : pc + 2 = pc') (hl : ls[k]? = some (.val (.int v))) (w : Win tb e below P (T.setTop (mkF m pc' ls (.int v :: st)))) : Win tb e below P (T.setTop (mkF m pc ls st)) := by
  subst hp; exact Win.go (fun _ k => XS.iload h hx rfl hd hl k) w
theorem s_lloadN {k : Fin 4} {v : Int64} (h : At T m c below) (hx : tb.exec = Jvm.exec) (hd : decode c.code pc = .ok (.lload_n k, 1)) (hp : pc + 1 = pc') (hl : ls[k.val]? = some (.val (.long v))) (w : Win tb e below P (T.setTop (mkF m pc' ls (.long v :: st)))) : Win tb e below P (T.setTop (mkF m pc ls st)) := by
  subst hp; exact Win.go (fun _ k => XS.lloadN h hx rfl hd hl k) w
theorem s_lload {k : Nat} {v : Int64} (h : At T m c below) (hx : tb.exec = Jvm.exec) (hd : decode c.code pc = .ok (.lload k, 2)) (hp : pc + 2 = pc') (hl : ls[k]? = some (.val (.long v))) (w : Win tb e below P (T.setTop (mkF m pc' ls (.long v :: st)))) : Win tb e below P (T.setTop (mkF m pc ls st)) := by
  subst hp; exact Win.go (fun _ k => XS.lload h hx rfl hd hl k) w
theorem s_aloadN {k : Fin 4} {v : Value} (h : At T m c below) (hx : tb.exec = Jvm.exec) (hd : decode c.code pc = .ok (.aload_n k, 1)) (hp : pc + 1 = pc') (hl : ls[k.val]? = some (.val v)) (hv : v.isRef = true) (w : Win tb e below P (T.setTop (mkF m pc' ls (v :: st)))) : Win tb e below P (T.setTop (mkF m pc ls st)) := by
  subst hp; exact Win.go (fun _ k => XS.aloadN h hx rfl hd hl hv k) w
theorem s_aload {k : Nat} {v : Value} (h : At T m c below) (hx : tb.exec = Jvm.exec) (hd : decode c.code pc = .ok (.aload k, 2)) (hp : pc + 2 = pc') (hl : ls[k]? = some (.val v)) (hv : v.isRef = true) (w : Win tb e below P (T.setTop (mkF m pc' ls (v :: st)))) : Win tb e below P (T.setTop (mkF m pc ls st)) := by
  subst hp; exact Win.go (fun _ k => XS.aload h hx rfl hd hl hv k) w
theorem s_iadd {x y : Int32} (h : At T m c below) (hx : tb.exec = Jvm.exec) (hd : decode c.code pc = .ok (.iadd, 1)) (hp : pc + 1 = pc') (w : Win tb e below P (T.setTop (mkF m pc' ls (.int (x + y) :: st)))) : Win tb e below P (T.setTop (mkF m pc ls (.int y :: .int x :: st))) := by
  subst hp; exact Win.go (fun _ k => XS.iadd h hx rfl hd rfl k) w
theorem s_isub {x y : Int32} (h : At T m c below) (hx : tb.exec = Jvm.exec) (hd : decode c.code pc = .ok (.isub, 1)) (hp : pc + 1 = pc') (w : Win tb e below P (T.setTop (mkF m pc' ls (.int (x - y) :: st)))) : Win tb e below P (T.setTop (mkF m pc ls (.int y :: .int x :: st))) := by
  subst hp; exact Win.go (fun _ k => XS.isub h hx rfl hd rfl k) w
theorem s_imul {x y : Int32} (h : At T m c below) (hx : tb.exec = Jvm.exec) (hd : decode c.code pc = .ok (.imul, 1)) (hp : pc + 1 = pc') (w : Win tb e below P (T.setTop (mkF m pc' ls (.int (x * y) :: st)))) : Win tb e below P (T.setTop (mkF m pc ls (.int y :: .int x :: st))) := by
  subst hp; exact Win.go (fun _ k => XS.imul h hx rfl hd rfl k) w
theorem s_iand {x y : Int32} (h : At T m c below) (hx : tb.exec = Jvm.exec) (hd : decode c.code pc = .ok (.iand, 1)) (hp : pc + 1 = pc') (w : Win tb e below P (T.setTop (mkF m pc' ls (.int (x &&& y) :: st)))) : Win tb e below P (T.setTop (mkF m pc ls (.int y :: .int x :: st))) := by
  subst hp; exact Win.go (fun _ k => XS.iand h hx rfl hd rfl k) w
theorem s_ior {x y : Int32} (h : At T m c below) (hx : tb.exec = Jvm.exec) (hd : decode c.code pc = .ok (.ior, 1)) (hp : pc + 1 = pc') (w : Win tb e below P (T.setTop (mkF m pc' ls (.int (x ||| y) :: st)))) : Win tb e below P (T.setTop (mkF m pc ls (.int y :: .int x :: st))) := by
  subst hp; exact Win.go (fun _ k => XS.ior h hx rfl hd rfl k) w
theorem s_ixor {x y : Int32} (h : At T m c below) (hx : tb.exec = Jvm.exec) (hd : decode c.code pc = .ok (.ixor, 1)) (hp : pc + 1 = pc') (w : Win tb e below P (T.setTop (mkF m pc' ls (.int (x ^^^ y) :: st)))) : Win tb e below P (T.setTop (mkF m pc ls (.int y :: .int x :: st))) := by
  subst hp; exact Win.go (fun _ k => XS.ixor h hx rfl hd rfl k) w
theorem s_ladd {x y : Int64} (h : At T m c below) (hx : tb.exec = Jvm.exec) (hd : decode c.code pc = .ok (.ladd, 1)) (hp : pc + 1 = pc') (w : Win tb e below P (T.setTop (mkF m pc' ls (.long (x + y) :: st)))) : Win tb e below P (T.setTop (mkF m pc ls (.long y :: .long x :: st))) := by
  subst hp; exact Win.go (fun _ k => XS.ladd h hx rfl hd rfl k) w
theorem s_lsub {x y : Int64} (h : At T m c below) (hx : tb.exec = Jvm.exec) (hd : decode c.code pc = .ok (.lsub, 1)) (hp : pc + 1 = pc') (w : Win tb e below P (T.setTop (mkF m pc' ls (.long (x - y) :: st)))) : Win tb e below P (T.setTop (mkF m pc ls (.long y :: .long x :: st))) := by
  subst hp; exact Win.go (fun _ k => XS.lsub h hx rfl hd rfl k) w
theorem s_lmul {x y : Int64} (h : At T m c below) (hx : tb.exec = Jvm.exec) (hd : decode c.code pc = .ok (.lmul, 1)) (hp : pc + 1 = pc') (w : Win tb e below P (T.setTop (mkF m pc' ls (.long (x * y) :: st)))) : Win tb e below P (T.setTop (mkF m pc ls (.long y :: .long x :: st))) := by
  subst hp; exact Win.go (fun _ k => XS.lmul h hx rfl hd rfl k) w
theorem s_land {x y : Int64} (h : At T m c below) (hx : tb.exec = Jvm.exec) (hd : decode c.code pc = .ok (.land, 1)) (hp : pc + 1 = pc') (w : Win tb e below P (T.setTop (mkF m pc' ls (.long (x &&& y) :: st)))) : Win tb e below P (T.setTop (mkF m pc ls (.long y :: .long x :: st))) := by
  subst hp; exact Win.go (fun _ k => XS.land h hx rfl hd rfl k) w
theorem s_lor {x y : Int64} (h : At T m c below) (hx : tb.exec = Jvm.exec) (hd : decode c.code pc = .ok (.lor, 1)) (hp : pc + 1 = pc') (w : Win tb e below P (T.setTop (mkF m pc' ls (.long (x ||| y) :: st)))) : Win tb e below P (T.setTop (mkF m pc ls (.long y :: .long x :: st))) := by
  subst hp; exact Win.go (fun _ k => XS.lor h hx rfl hd rfl k) w
theorem s_lxor {x y : Int64} (h : At T m c below) (hx : tb.exec = Jvm.exec) (hd : decode c.code pc = .ok (.lxor, 1)) (hp : pc + 1 = pc') (w : Win tb e below P (T.setTop (mkF m pc' ls (.long (x ^^^ y) :: st)))) : Win tb e below P (T.setTop (mkF m pc ls (.long y :: .long x :: st))) := by
  subst hp; exact Win.go (fun _ k => XS.lxor h hx rfl hd rfl k) w
theorem s_iconst {i : Int} {z : Int32} (h : At T m c below) (hx : tb.exec = Jvm.exec) (hd : decode c.code pc = .ok (.iconst i, 1)) (hp : pc + 1 = pc') (hz : Int32.ofInt i = z) (w : Win tb e below P (T.setTop (mkF m pc' ls (.int z :: st)))) : Win tb e below P (T.setTop (mkF m pc ls st)) := by
  subst hp hz; exact Win.go (fun _ k => XS.iconst h hx rfl hd k) w
theorem s_bipush {i : Int} {z : Int32} (h : At T m c below) (hx : tb.exec = Jvm.exec) (hd : decode c.code pc = .ok (.bipush i, 2)) (hp : pc + 2 = pc') (hz : (Int8.ofInt i).toInt32 = z) (w : Win tb e below P (T.setTop (mkF m pc' ls (.int z :: st)))) : Win tb e below P (T.setTop (mkF m pc ls st)) := by
  subst hp hz; exact Win.go (fun _ k => XS.bipush h hx rfl hd k) w
theorem s_sipush {i : Int} {z : Int32} (h : At T m c below) (hx : tb.exec = Jvm.exec) (hd : decode c.code pc = .ok (.sipush i, 3)) (hp : pc + 3 = pc') (hz : (Int16.ofInt i).toInt32 = z) (w : Win tb e below P (T.setTop (mkF m pc' ls (.int z :: st)))) : Win tb e below P (T.setTop (mkF m pc ls st)) := by
  subst hp hz; exact Win.go (fun _ k => XS.sipush h hx rfl hd k) w
theorem s_lconst {i : Fin 2} {z : Int64} (h : At T m c below) (hx : tb.exec = Jvm.exec) (hd : decode c.code pc = .ok (.lconst i, 1)) (hp : pc + 1 = pc') (hz : Int64.ofNat i = z) (w : Win tb e below P (T.setTop (mkF m pc' ls (.long z :: st)))) : Win tb e below P (T.setTop (mkF m pc ls st)) := by
  subst hp hz; exact Win.go (fun _ k => XS.lconst h hx rfl hd k) w
theorem s_goto {o : Int} (h : At T m c below) (hx : tb.exec = Jvm.exec) (hd : decode c.code pc = .ok (.goto o, 3)) (ho : 0 ≤ (pc : Int) + o) (hp : ((pc : Int) + o).toNat = pc') (w : Win tb e below P (T.setTop (mkF m pc' ls st))) : Win tb e below P (T.setTop (mkF m pc ls st)) := by
  exact Win.go (fun _ k => XS.goto h hx rfl rfl hd ho hp k) w
theorem s_icmpYes {cd : ClassFile.Cond} {o : Int} {x y : Int32} (h : At T m c below) (hx : tb.exec = Jvm.exec) (hd : decode c.code pc = .ok (.if_icmp cd o, 3)) (hc : if_icmp.holds cd x y = true) (ho : 0 ≤ (pc : Int) + o) (hp : ((pc : Int) + o).toNat = pc') (w : Win tb e below P (T.setTop (mkF m pc' ls st))) : Win tb e below P (T.setTop (mkF m pc ls (.int y :: .int x :: st))) := by
  exact Win.go (fun _ k => XS.icmpYes h hx rfl rfl hd rfl hc ho hp k) w
theorem s_icmpNo {cd : ClassFile.Cond} {o : Int} {x y : Int32} (h : At T m c below) (hx : tb.exec = Jvm.exec) (hd : decode c.code pc = .ok (.if_icmp cd o, 3)) (hp : pc + 3 = pc') (hc : if_icmp.holds cd x y = false) (w : Win tb e below P (T.setTop (mkF m pc' ls st))) : Win tb e below P (T.setTop (mkF m pc ls (.int y :: .int x :: st))) := by
  subst hp; exact Win.go (fun _ k => XS.icmpNo h hx rfl hd rfl hc k) w
theorem s_ifYes {cd : ClassFile.Cond} {o : Int} {x : Int32} (h : At T m c below) (hx : tb.exec = Jvm.exec) (hd : decode c.code pc = .ok (.ifCond cd o, 3)) (hc : ifCond.holds cd x = true) (ho : 0 ≤ (pc : Int) + o) (hp : ((pc : Int) + o).toNat = pc') (w : Win tb e below P (T.setTop (mkF m pc' ls st))) : Win tb e below P (T.setTop (mkF m pc ls (.int x :: st))) := by
  exact Win.go (fun _ k => XS.ifYes h hx rfl rfl hd rfl hc ho hp k) w
theorem s_ifNo {cd : ClassFile.Cond} {o : Int} {x : Int32} (h : At T m c below) (hx : tb.exec = Jvm.exec) (hd : decode c.code pc = .ok (.ifCond cd o, 3)) (hp : pc + 3 = pc') (hc : ifCond.holds cd x = false) (w : Win tb e below P (T.setTop (mkF m pc' ls st))) : Win tb e below P (T.setTop (mkF m pc ls (.int x :: st))) := by
  subst hp; exact Win.go (fun _ k => XS.ifNo h hx rfl hd rfl hc k) w
theorem s_lcmp {x y : Int64} (h : At T m c below) (hx : tb.exec = Jvm.exec) (hd : decode c.code pc = .ok (.lcmp, 1)) (hp : pc + 1 = pc') (w : Win tb e below P (T.setTop (mkF m pc' ls (.int (lcmpW x y) :: st)))) : Win tb e below P (T.setTop (mkF m pc ls (.long y :: .long x :: st))) := by
  subst hp; exact Win.go (fun _ k => XS.lcmp h hx rfl hd rfl k) w
theorem s_istore {k : Nat} {x : Int32} {l' : Array Slot} (h : At T m c below) (hx : tb.exec = Jvm.exec) (hd : decode c.code pc = .ok (.istore k, 2)) (hp : pc + 2 = pc') (hl : storeLocals ls k (.int x) = some l') (w : Win tb e below P (T.setTop (mkF m pc' l' st))) : Win tb e below P (T.setTop (mkF m pc ls (.int x :: st))) := by
  subst hp; exact Win.go (fun _ k => XS.istore h hx rfl hd rfl hl k) w
theorem s_istoreN {k : Fin 4} {x : Int32} {l' : Array Slot} (h : At T m c below) (hx : tb.exec = Jvm.exec) (hd : decode c.code pc = .ok (.istore_n k, 1)) (hp : pc + 1 = pc') (hl : storeLocals ls k.val (.int x) = some l') (w : Win tb e below P (T.setTop (mkF m pc' l' st))) : Win tb e below P (T.setTop (mkF m pc ls (.int x :: st))) := by
  subst hp; exact Win.go (fun _ k => XS.istoreN h hx rfl hd rfl hl k) w
theorem s_lstore {k : Nat} {x : Int64} {l' : Array Slot} (h : At T m c below) (hx : tb.exec = Jvm.exec) (hd : decode c.code pc = .ok (.lstore k, 2)) (hp : pc + 2 = pc') (hl : storeLocals ls k (.long x) = some l') (w : Win tb e below P (T.setTop (mkF m pc' l' st))) : Win tb e below P (T.setTop (mkF m pc ls (.long x :: st))) := by
  subst hp; exact Win.go (fun _ k => XS.lstore h hx rfl hd rfl hl k) w
theorem s_lstoreN {k : Fin 4} {x : Int64} {l' : Array Slot} (h : At T m c below) (hx : tb.exec = Jvm.exec) (hd : decode c.code pc = .ok (.lstore_n k, 1)) (hp : pc + 1 = pc') (hl : storeLocals ls k.val (.long x) = some l') (w : Win tb e below P (T.setTop (mkF m pc' l' st))) : Win tb e below P (T.setTop (mkF m pc ls (.long x :: st))) := by
  subst hp; exact Win.go (fun _ k => XS.lstoreN h hx rfl hd rfl hl k) w
theorem s_astore {k : Nat} {x : Value} {l' : Array Slot} (h : At T m c below) (hx : tb.exec = Jvm.exec) (hd : decode c.code pc = .ok (.astore k, 2)) (hp : pc + 2 = pc') (hv : x.isRef = true) (hl : storeLocals ls k x = some l') (w : Win tb e below P (T.setTop (mkF m pc' l' st))) : Win tb e below P (T.setTop (mkF m pc ls (x :: st))) := by
  subst hp; exact Win.go (fun _ k => XS.astore h hx rfl hd rfl hv hl k) w
theorem s_astoreN {k : Fin 4} {x : Value} {l' : Array Slot} (h : At T m c below) (hx : tb.exec = Jvm.exec) (hd : decode c.code pc = .ok (.astore_n k, 1)) (hp : pc + 1 = pc') (hv : x.isRef = true) (hl : storeLocals ls k.val x = some l') (w : Win tb e below P (T.setTop (mkF m pc' l' st))) : Win tb e below P (T.setTop (mkF m pc ls (x :: st))) := by
  subst hp; exact Win.go (fun _ k => XS.astoreN h hx rfl hd rfl hv hl k) w
theorem s_dup {x : Value} (h : At T m c below) (hx : tb.exec = Jvm.exec) (hd : decode c.code pc = .ok (.dup, 1)) (hp : pc + 1 = pc') (hc : x.category = 1) (w : Win tb e below P (T.setTop (mkF m pc' ls (x :: x :: st)))) : Win tb e below P (T.setTop (mkF m pc ls (x :: st))) := by
  subst hp; exact Win.go (fun _ k => XS.dup h hx rfl hd rfl hc k) w
end Steps
/-- an array of ints by its places: place j holds f j -/
def AF (Z : State) (h : Heap) (a : Addr) (ty : FieldType) (n : Nat) (f : Int → Int32) : Prop := ∃ cl : Cell, Arr Z h a cl ty ∧ cl.slots.size = n ∧ ∀ j : Int32, 0 ≤ j.toInt → j.toInt < n → cl.slots[j.toNatClampNeg]? = some (.int (f j.toInt))
section AFs
variable {Z : State} {h h' : Heap} {a b : Addr} {ty : FieldType} {n : Nat} {f : Int → Int32} {ws : List Addr} {sl : Nat} {v : Value}
theorem AF.lt (F : AF Z h a ty n f) : a < h.size := by obtain ⟨c, A, -⟩ := F; exact A.lt
theorem AF.ext (F : AF Z h a ty n f) (E : Ext h h') : AF Z h' a ty n f := by obtain ⟨c, A, r⟩ := F; exact ⟨c, A.ext E, r⟩
theorem AF.other (F : AF Z h b ty n f) (W : Wr h h' a sl v) (q : b ≠ a) : AF Z h' b ty n f := by obtain ⟨c, A, r⟩ := F; exact ⟨c, A.other W q, r⟩
theorem AF.keep (F : AF Z h a ty n f) (K : Keep h h' ws) (q : a ∉ ws) : AF Z h' a ty n f := by obtain ⟨c, A, r⟩ := F; exact ⟨c, ⟨K.2.1 a c A.1 q, A.2⟩, r⟩
theorem AF.inb {c : Cell} {j : Int32} (S : c.slots.size = n) (q : 0 ≤ j.toInt ∧ j.toInt < n) : ¬ (j < 0 ∨ c.slots.size ≤ j.toNatClampNeg) := by
  rw [S, Int32.lt_iff_toInt_lt]; have e0 : (0 : Int32).toInt = 0 := rfl
  simp only [Int32.toNatClampNeg]; omega
def updF (f : Int → Int32) (j : Int) (v : Int32) : Int → Int32 := fun i => if i = j then v else f i
theorem updF_hit (f : Int → Int32) (j : Int) (v : Int32) : updF f j v j = v := if_pos rfl
theorem updF_miss {f : Int → Int32} {i j : Int} {v : Int32} (q : i ≠ j) : updF f j v i = f i := if_neg q
theorem AF.set {cl : Cell} {j v : Int32} (A : Arr Z h a cl ty) (S : cl.slots.size = n) (G : ∀ j : Int32, 0 ≤ j.toInt → j.toInt < n → cl.slots[j.toNatClampNeg]? = some (.int (f j.toInt))) (W : Wr h h' a j.toNatClampNeg (.int v)) (q : 0 ≤ j.toInt ∧ j.toInt < n) : AF Z h' a ty n (updF f j.toInt v) := by
  have e0 : (0 : Int32).toInt = 0 := rfl
  refine ⟨_, A.same W, by rw [sz_set]; exact S, fun k h0 h1 => ?_⟩
  by_cases e : k = j
  · subst e; rw [get_hit (AF.inb S q) rfl, updF_hit]
  · rw [get_miss (by rw [Int32.lt_iff_toInt_lt]; omega) (by rw [Int32.lt_iff_toInt_lt]; omega) e, updF_miss (fun z => e (Int32.toInt_inj.mp z))]; exact G k h0 h1
theorem AF.zero {k : ClassId} {z : Int32} (F : Arv Z h a k ty z [] (.int 0)) (q : z.toNatClampNeg = n) : AF Z h a ty n (fun _ => 0) := by
  obtain ⟨c, A, -, S, -, H, -⟩ := F
  refine ⟨c, A, S.trans q, fun j h0 h1 => ?_⟩
  have e : j.toNatClampNeg = j.toInt.toNat := rfl
  exact H _ (by rw [S, q, e]; omega)
theorem AF.ex {k : ClassId} {z : Int32} {vs : List Value} {dv : Value} (F : Arv Z h a k .byte z vs dv) (q : z.toNatClampNeg = n) : ∃ f, AF Z h a .byte n f := by
  obtain ⟨c, A, -, S, -, H, G⟩ := F
  refine ⟨fun i => match c.slots[i.toNat]? with | some (.int x) => x | _ => 0, c, A, S.trans q, fun j h0 h1 => ?_⟩
  have e : j.toNatClampNeg = j.toInt.toNat := rfl
  have hj : j.toInt.toNat < c.slots.size := by rw [S, q]; omega
  have e1 := H _ hj
  have e2 := G _ hj
  show c.slots[j.toInt.toNat]? = some (.int (match c.slots[j.toInt.toNat]? with | some (.int x) => x | _ => 0))
  cases hv : vs.getD j.toInt.toNat dv <;> rw [hv] at e1 e2 <;> first | (rw [e1]; done) | (exact absurd e2 (by simp [fits]))
/-- a byte array of length z -/
def BA (Z : State) (h : Heap) (a : Addr) (z : Int32) : Prop := ∃ (k : ClassId) (vs : List Value), Arv Z h a k .byte z vs (.int 0)
variable {z : Int32}
theorem BA.lt (F : BA Z h a z) : a < h.size := by obtain ⟨_, _, A⟩ := F; exact A.lt
theorem BA.ext (F : BA Z h a z) (E : Ext h h') : BA Z h' a z := by obtain ⟨k, vs, A⟩ := F; exact ⟨k, vs, A.ext E⟩
theorem BA.other (F : BA Z h b z) (W : Wr h h' a sl v) (q : b ≠ a) : BA Z h' b z := by obtain ⟨k, vs, A⟩ := F; exact ⟨k, vs, A.other W q⟩
theorem BA.keep (F : BA Z h a z) (K : Keep h h' ws) (q : a ∉ ws) : BA Z h' a z := by obtain ⟨k, vs, A⟩ := F; exact ⟨k, vs, A.keep K q⟩
theorem cpBA {p : Program} {l : Launch} {e : Env} {R : Room} {s : State} {m : MethodId} {args : Array Value} {below : List Frame} {meth : Method} {c : Code} {T : State} {locs : List Loc} {cells slots : Nat}
    (X : Stand p l e R s m args below meth c T locs cells slots) (hx : p.tables.exec = Jvm.exec) (hZ : Z.Warmed39 s.vm) {a0 : Array Value} {own : String} {index : Nat} (hown : s.vm.findClass own = some m.cls)
    (w1 : (Cond.methodLink own index Jvm.Stand.acN).before a0 Z = true) (w2 : (Cond.native Jvm.Stand.acN).before a0 Z = true) (w3 : (Cond.static Jvm.Stand.acN).before a0 Z = true) (w4 : (Cond.initialized "java/lang/System").before a0 Z = true) (eT : T.heap = h)
    {z' sp dp nn : Int32} (A : BA Z h a z) (B : BA Z h b z') (h1 : 0 ≤ sp.toInt) (h2 : 0 ≤ dp.toInt) (h3 : 0 ≤ nn.toInt) (h4 : sp.toInt + nn.toInt ≤ z.toInt) (h5 : dp.toInt + nn.toInt ≤ z'.toInt) {n0 : Nat} (N : Fr n0 locs) (ge : n0 ≤ b)
    {g : JFrame} (hg : g.method = m) (hsize : g.locals.size = c.maxLocals) {rest : List Value} (hs : g.stack = .int nn :: .int dp :: .ref b :: .int sp :: .ref a :: rest) (hd : decode c.code g.pc = .ok (.invokestatic index, 3))
    (hf : 1 ≤ R.frames) {W : Nat} (hW : 2 * g.monitorRoom + (rest.map fun v => v.category).sum ≤ W) (hlo : W + (nativeFrameWords "java/lang/System" "arraycopy" 5 + 11) ≤ R.locals) :
    ∃ T' h' L, Stand p l e R s m args below meth c T' L cells slots ∧ T'.heap = h' ∧ Fr n0 L ∧ Keep h h' [b] ∧ BA Z h' b z' ∧
      ∀ target, Steps p.tables e below (T'.setTop { g with pc := g.pc + 3, stack := rest }) target → Steps p.tables e below (T.setTop g) target := by
  have e0 : (0 : Int32).toInt = 0 := rfl
  obtain ⟨k, vs, A⟩ := A
  obtain ⟨k', vd, B⟩ := B
  have B' := B.pad (pad_rep vd (.int 0) z'.toNatClampNeg)
  obtain ⟨T', h', L, X', e', N', K, B2, st⟩ := cpA X hx hZ hown w1 w2 w3 w4 eT A B' (Or.inl ⟨rfl, rfl⟩) (by rw [Int32.lt_iff_toInt_lt]; omega) (by rw [Int32.lt_iff_toInt_lt]; omega) (by rw [Int32.lt_iff_toInt_lt]; omega) (by simp only [Int32.toNatClampNeg]; omega) (by simp only [Int32.toNatClampNeg]; omega) rfl (by simp only [List.length_append, List.length_replicate, Int32.toNatClampNeg]; omega) N ge hg hsize hs hd hf hW hlo
  exact ⟨T', h', L, X', e', N', K, ⟨k', _, B2⟩, st⟩
end AFs
theorem own_selPriv {s : State} {args : Array Value} {y y' : MethodName} (hn : y.cls = y'.cls) (w : (Cond.selects y'.cls y' y').before args s = true) (hpriv : s.PrivateAt y) (hinst : (Cond.instanceMethod y).before args s = true) (hy : y.cls ≠ "java/lang/invoke/MethodHandle" ∧ y.cls ≠ "java/lang/invoke/VarHandle") : (Cond.selects y.cls y y).before args s = true := by
  obtain ⟨c, r, m, h1, -, h3, -, k, h5, h6⟩ := Cond.selects_spec w
  have h7 := findClass_of_methodNamed h3
  cases h1.symm.trans h7
  exact selects_self_of_private (by rw [hn]; exact h7) h5 h6 hpriv hinst hy
theorem own_lremEq (x y : Int64) : x - (x / y) * y = x % y := by
  refine Int64.toInt_inj.mp ?_
  have h1 := rng64 (x % y)
  have e : x.toInt - x.toInt.tdiv y.toInt * y.toInt = (x % y).toInt := by rw [Int64.toInt_mod, Int.tmod_def, Int.mul_comm]
  rw [Int64.toInt_sub, Int64.toInt_mul, Int64.toInt_div, Int.bmod_mul_bmod, Int.sub_bmod_bmod, e]
  exact Int.bmod_eq_of_le_mul_two (by omega) (by omega)
theorem lremM {p : Program} {l : Launch} {e : Env} {R : Room} {s : State} {m : MethodId} {args : Array Value} {below : List Frame} {meth : Method} {c : Code} {T : State} {locs : List Loc} {cells slots : Nat} {g : JFrame} {target : State} (X : Stand p l e R s m args below meth c T locs cells slots) (hx : p.tables.exec = Jvm.exec) (hg : g.method = m) {x y : Int64} {rest : List Value} (hd : decode c.code g.pc = .ok (.lrem, 1)) (hs : g.stack = .long y :: .long x :: rest) (hy : y ≠ 0)
    (hr : Steps p.tables e below (T.setTop { g with pc := g.pc + 1, stack := .long (x % y) :: rest }) target) : Steps p.tables e below (T.setTop g) target :=
  XS.lrem X.here hx hg hd hs hy (by rw [own_lremEq]; exact hr)
/-! comparisons by the numbers -/
theorem tltI {x y : Int32} (h : x.toInt < y.toInt) : if_icmp.holds .lt x y = true ∧ if_icmp.holds .ge x y = false ∧ if_icmp.holds .gt y x = true ∧ if_icmp.holds .le y x = false := tlt (Int32.lt_iff_toInt_lt.mpr h)
theorem fltI {x y : Int32} (h : ¬ x.toInt < y.toInt) : if_icmp.holds .lt x y = false ∧ if_icmp.holds .ge x y = true ∧ if_icmp.holds .gt y x = false ∧ if_icmp.holds .le y x = true := flt (fun q => h (Int32.lt_iff_toInt_lt.mp q))
theorem teqI {x y : Int32} (h : x.toInt = y.toInt) : if_icmp.holds .eq x y = true ∧ if_icmp.holds .ne x y = false := teq (Int32.toInt_inj.mp h)
theorem feqI {x y : Int32} (h : ¬ x.toInt = y.toInt) : if_icmp.holds .eq x y = false ∧ if_icmp.holds .ne x y = true := feq (fun q => h (congrArg _ q))
theorem tltZ {x y : Int32} (h : x.toInt < y.toInt) : (y = 0 → ifCond.holds .lt x = true ∧ ifCond.holds .ge x = false) ∧ (x = 0 → ifCond.holds .gt y = true ∧ ifCond.holds .le y = false) :=
  ⟨fun q => by subst q; exact ⟨(if0 _ _).trans (tltI h).1, (if0 _ _).trans (tltI h).2.1⟩, fun q => by subst q; exact ⟨(if0 _ _).trans (tltI h).2.2.1, (if0 _ _).trans (tltI h).2.2.2⟩⟩
theorem tltL {x y : Int64} (h : x.toInt < y.toInt) : ifCond.holds .lt (lcmpW x y) = true ∧ ifCond.holds .ge (lcmpW x y) = false ∧ ifCond.holds .gt (lcmpW y x) = true ∧ ifCond.holds .le (lcmpW y x) = false :=
  have h' := Int64.lt_iff_toInt_lt.mpr h
  ⟨(if0 _ _).trans (tlt ((lw_lt x y).mpr h')).1, (if0 _ _).trans (tlt ((lw_lt x y).mpr h')).2.1, (if0 _ _).trans (tlt ((lw_gt y x).mpr h')).2.2.1, (if0 _ _).trans (tlt ((lw_gt y x).mpr h')).2.2.2⟩
theorem fltL {x y : Int64} (h : ¬ x.toInt < y.toInt) : ifCond.holds .lt (lcmpW x y) = false ∧ ifCond.holds .ge (lcmpW x y) = true ∧ ifCond.holds .gt (lcmpW y x) = false ∧ ifCond.holds .le (lcmpW y x) = true :=
  have h1 : ¬ lcmpW x y < 0 := fun q => h (Int64.lt_iff_toInt_lt.mp ((lw_lt x y).mp q))
  have h2 : ¬ 0 < lcmpW y x := fun q => h (Int64.lt_iff_toInt_lt.mp ((lw_gt y x).mp q))
  ⟨(if0 _ _).trans (flt h1).1, (if0 _ _).trans (flt h1).2.1, (if0 _ _).trans (flt h2).2.2.1, (if0 _ _).trans (flt h2).2.2.2⟩
theorem teqL {x y : Int64} (h : x.toInt = y.toInt) : ifCond.holds .eq (lcmpW x y) = true ∧ ifCond.holds .ne (lcmpW x y) = false :=
  have h' := (lw_eq x y).mpr (Int64.toInt_inj.mp h)
  ⟨(if0 _ _).trans (teq h').1, (if0 _ _).trans (teq h').2⟩
theorem feqL {x y : Int64} (h : ¬ x.toInt = y.toInt) : ifCond.holds .eq (lcmpW x y) = false ∧ ifCond.holds .ne (lcmpW x y) = true :=
  have h' : ¬ lcmpW x y = 0 := fun q => h (congrArg _ ((lw_eq x y).mp q))
  ⟨(if0 _ _).trans (feq h').1, (if0 _ _).trans (feq h').2⟩
end Jvm.OwnWalk
namespace Jvm.Pilot.@@N@@
open Jvm Jvm.ClassFile Sem Op Lib Jvm.Free Jvm.Stand Jvm.LawKit Jvm.RoadKit Bundle Jvm.OwnWalk Jvm.Pilot.@@N@@.Jvm.D
theorem own_q (K R D : Int) (h1 : 1 ≤ K) (h2 : K < D) (h3 : 1 ≤ R) (h4 : R ≤ D) : 1 ≤ (K * R + D - 1) / D ∧ (K * R + D - 1) / D ≤ K ∧ K * R ≤ (K * R + D - 1) / D * D ∧ ((K * R + D - 1) / D - 1) * D < K * R ∧ (K * R + D - 1) / D * D ≤ K * R + D - 1 := by
  have hD : 0 < D := by omega
  have kr : 1 * 1 ≤ K * R := Int.mul_le_mul h1 h3 (by omega) (by omega)
  have krd : K * R ≤ K * D := Int.mul_le_mul_of_nonneg_left h4 (by omega)
  generalize hp : K * R = P at *
  have a1 : (P + D - 1) / D * D ≤ P + D - 1 := Int.ediv_mul_le _ (by omega)
  have a2 : P + D - 1 < ((P + D - 1) / D + 1) * D := Int.lt_ediv_add_one_mul_self _ hD
  generalize hq : (P + D - 1) / D = q at *
  have e1 : (q + 1) * D = q * D + D := by rw [Int.add_mul, Int.one_mul]
  have e2 : (q - 1) * D = q * D - D := by rw [Int.sub_mul, Int.one_mul]
  have b1 : 1 ≤ q := by
    have : ¬ q ≤ 0 := fun h => by
      have : q * D ≤ 0 * D := Int.mul_le_mul_of_nonneg_right h (by omega)
      omega
    omega
  have b2 : q ≤ K := by
    have : ¬ K + 1 ≤ q := fun h => by
      have : (K + 1) * D ≤ q * D := Int.mul_le_mul_of_nonneg_right h (by omega)
      rw [Int.add_mul, Int.one_mul] at this
      omega
    omega
  exact ⟨b1, b2, by omega, by omega, by omega⟩
theorem own_m31 (x : Int32) : 0 ≤ (x &&& (2147483647 : Int32)).toInt := (c_and x 2147483647 (by decide)).1
theorem own_m63 (x : Int64) : (x &&& (9223372036854775807 : Int64)).toInt = x.toInt % 9223372036854775808 := c_maskL x 9223372036854775807 63 (by decide) (by decide)
theorem own_nz {x : Int32} (h : 1 ≤ x.toInt) : x ≠ 0 := fun q => by rw [q] at h; exact absurd h (by decide)
theorem own_nzL {x : Int32} (h : 1 ≤ x.toInt) : x.toInt64 ≠ 0 := fun q => by
  have : x.toInt64.toInt = 0 := by rw [q]; rfl
  rw [c_i2l] at this; omega
theorem own_ediv {x y : Int64} (hx : 0 ≤ x.toInt) (hy : 0 < y.toInt) : (x / y).toInt = x.toInt / y.toInt := (c_ldiv x y y.toInt rfl (fun q => by rw [q] at hy; exact absurd hy (by decide))).1 hx
theorem own_lrem {x y : Int64} (hx : 0 ≤ x.toInt) (hy : 0 < y.toInt) : 0 ≤ (x % y).toInt ∧ (x % y).toInt < y.toInt := by
  rw [Int64.toInt_mod, (tr x.toInt y.toInt).1 hx]
  exact ⟨Int.emod_nonneg _ (by omega), Int.emod_lt_of_pos _ hy⟩
theorem own_prod {x y : Int} (h1 : 0 ≤ x) (h2 : x < 2147483648) (h3 : 0 ≤ y) (h4 : y < 2147483648) : 0 ≤ x * y ∧ x * y ≤ 4611686014132420609 := by
  refine ⟨Int.mul_nonneg h1 h3, ?_⟩
  have : x * y ≤ 2147483647 * 2147483647 := Int.mul_le_mul (by omega) (by omega) h3 (by omega)
  omega
theorem own_lm {x y : Int64} (h1 : 0 ≤ x.toInt) (h2 : x.toInt < 2147483648) (h3 : 0 ≤ y.toInt) (h4 : y.toInt < 2147483648) : (x * y).toInt = x.toInt * y.toInt := by
  have a := c_lmul x y
  have b := own_prod h1 h2 h3 h4
  have c := rng64 (x * y)
  generalize x.toInt * y.toInt = P at *
  omega
theorem d1_0 : decode jdk_29_method_65_code 0 = .ok (.iload_n 0, 1) := by decide +kernel
theorem d1_1 : decode jdk_29_method_65_code 1 = .ok (.iload_n 1, 1) := by decide +kernel
theorem d1_2 : decode jdk_29_method_65_code 2 = .ok (.if_icmp .lt 7, 3) := by decide +kernel
theorem d1_5 : decode jdk_29_method_65_code 5 = .ok (.iload_n 0, 1) := by decide +kernel
theorem d1_6 : decode jdk_29_method_65_code 6 = .ok (.goto 4, 3) := by decide +kernel
theorem d1_9 : decode jdk_29_method_65_code 9 = .ok (.iload_n 1, 1) := by decide +kernel
theorem d1_10 : decode jdk_29_method_65_code 10 = .ok (.ireturn, 1) := by decide +kernel
theorem ef_1 (m : MethodId) (a : Int32) (b : Int32) : entryFrame m #[(.int a), (.int b)] 2 = mkF m 0 #[.val (.int a), .val (.int b)] [] := by first | (simp [entryFrame, mkF, argsToLocals, Value.category]; done) | rfl
def Q1 (Z : State) (a : Int32) (b : Int32) (h0 : Heap) (n0 : Nat) (v : Option Value) (h : Heap) (L : List Loc) : Prop := Fr n0 L ∧ h = h0 ∧ (∃ z : Int32, v = some (.int z) ∧ (a.toInt ≤ z.toInt ∧ b.toInt ≤ z.toInt ∧ (z.toInt = a.toInt ∨ z.toInt = b.toInt)))
set_option maxRecDepth 65536 in
set_option maxHeartbeats 40000000 in
theorem rm1 (l : Launch) (Z : State) (a0 : Array Value) (hw : ∀ d ∈ tables_1, d.before a0 Z = true) (ws : List Jvm.Cond) (a : Int32) (b : Int32) (h0 : Heap) (n0 : Nat) (Zs : n0 ≤ h0.size) :
    MetFree l (⟨"java/lang/Math", "max", "(II)I"⟩ : MethodName) (head1 (Jvm.Cond.code (⟨"java/lang/Math", "max", "(II)I"⟩ : MethodName) jdk_29_method_65_code 2 (some .int) :: ws) ({ frames := 0, cells := 0, slots := 0, locals := 0 } : Room)) (fun as' U => as' = #[(.int a), (.int b)] ∧ Z.Warmed39 U.vm ∧ U.heap = h0) (fun _ _ _ _ _ => True) (fun _ U o U' => ∃ v L, o = .returned v ∧ Q1 Z a b h0 n0 v U'.heap L ∧ FrameEnd U o U' L ({ frames := 0, cells := 0, slots := 0, locals := 0 } : Room).cells ({ frames := 0, cells := 0, slots := 0, locals := 0 } : Room).slots) := by
  refine MetFree.of_bodySF (Jvm.Free.JP.mathPlain rfl (by decide +kernel)) hisR ?_
  intro p e s m args below meth c s₁ Bd hml0 hP hK
  obtain ⟨rfl, hZ, hh⟩ := hP
  have hx := Bd.exec
  have hby := Bd.bytes
  have hml : c.maxLocals = 2 := hml0
  have hown : s.vm.findClass "java/lang/Math" = some m.cls := findClass_of_methodNamed Bd.named
  have hnm := (name_of_methodNamed Bd.named Bd.method).1
  have hlk : meth.locks = false := Bd.notSynchronized
  have X0 : Stand p l e ({ frames := 0, cells := 0, slots := 0, locals := 0 } : Room) s m #[(.int a), (.int b)] below meth c s₁ [] 0 0 := Stand.of_body Bd
  have e0 : s₁.heap = h0 := by rw [← hh, Bd.state]; rfl
  have Nf := Fr.nil n0
  refine (?_ : Win p.tables e below (PostQ s (Q1 Z a b h0 n0) ({ frames := 0, cells := 0, slots := 0, locals := 0 } : Room).cells ({ frames := 0, cells := 0, slots := 0, locals := 0 } : Room).slots) (s₁.setTop (entryFrame m #[(.int a), (.int b)] 2)))
  rw [ef_1]
  show Win p.tables e below _ (s₁.setTop (mkF m 0 #[.val (.int a), .val (.int b)] []))
  refine s_iloadN (pc' := 1) X0.here hx (hb hby d1_0) rfl rfl ?_
  refine s_iloadN (pc' := 2) X0.here hx (hb hby d1_1) rfl rfl ?_
  by_cases hc2 : (a).toInt < (b).toInt
  · skip
    refine s_icmpYes (pc' := 9) X0.here hx (hb hby d1_2) (tltI (x := a) (y := b) hc2).1 (by decide) (by decide) ?_
    refine s_iloadN (pc' := 10) X0.here hx (hb hby d1_9) rfl rfl ?_
    refine winI X0 hx hlk e0 Bd.returns (hb hby d1_10) (by decide) (by decide) ?_
    exact ⟨Nf, rfl, _, rfl, by omega⟩
  · skip
    refine s_icmpNo (pc' := 5) X0.here hx (hb hby d1_2) rfl (fltI (x := a) (y := b) hc2).1 ?_
    refine s_iloadN (pc' := 6) X0.here hx (hb hby d1_5) rfl rfl ?_
    refine s_goto (pc' := 10) X0.here hx (hb hby d1_6) (by decide) (by decide) ?_
    refine winI X0 hx hlk e0 Bd.returns (hb hby d1_10) (by decide) (by decide) ?_
    exact ⟨Nf, rfl, _, rfl, by omega⟩
theorem d2_0 : decode jdk_29_method_66_code 0 = .ok (.lload_n 0, 1) := by decide +kernel
theorem d2_1 : decode jdk_29_method_66_code 1 = .ok (.lload_n 2, 1) := by decide +kernel
theorem d2_2 : decode jdk_29_method_66_code 2 = .ok (.lcmp, 1) := by decide +kernel
theorem d2_3 : decode jdk_29_method_66_code 3 = .ok (.ifCond .lt 7, 3) := by decide +kernel
theorem d2_6 : decode jdk_29_method_66_code 6 = .ok (.lload_n 0, 1) := by decide +kernel
theorem d2_7 : decode jdk_29_method_66_code 7 = .ok (.goto 4, 3) := by decide +kernel
theorem d2_10 : decode jdk_29_method_66_code 10 = .ok (.lload_n 2, 1) := by decide +kernel
theorem d2_11 : decode jdk_29_method_66_code 11 = .ok (.lreturn, 1) := by decide +kernel
theorem ef_2 (m : MethodId) (a : Int64) (b : Int64) : entryFrame m #[(.long a), (.long b)] 4 = mkF m 0 #[.val (.long a), .second, .val (.long b), .second] [] := by first | (simp [entryFrame, mkF, argsToLocals, Value.category]; done) | rfl
def Q2 (Z : State) (a : Int64) (b : Int64) (h0 : Heap) (n0 : Nat) (v : Option Value) (h : Heap) (L : List Loc) : Prop := Fr n0 L ∧ h = h0 ∧ (∃ z : Int64, v = some (.long z) ∧ (a.toInt ≤ z.toInt ∧ b.toInt ≤ z.toInt ∧ (z.toInt = a.toInt ∨ z.toInt = b.toInt)))
set_option maxRecDepth 65536 in
set_option maxHeartbeats 40000000 in
theorem rm2 (l : Launch) (Z : State) (a0 : Array Value) (hw : ∀ d ∈ tables_1, d.before a0 Z = true) (ws : List Jvm.Cond) (a : Int64) (b : Int64) (h0 : Heap) (n0 : Nat) (Zs : n0 ≤ h0.size) :
    MetFree l (⟨"java/lang/Math", "max", "(JJ)J"⟩ : MethodName) (head1 (Jvm.Cond.code (⟨"java/lang/Math", "max", "(JJ)J"⟩ : MethodName) jdk_29_method_66_code 4 (some .long) :: ws) ({ frames := 0, cells := 0, slots := 0, locals := 0 } : Room)) (fun as' U => as' = #[(.long a), (.long b)] ∧ Z.Warmed39 U.vm ∧ U.heap = h0) (fun _ _ _ _ _ => True) (fun _ U o U' => ∃ v L, o = .returned v ∧ Q2 Z a b h0 n0 v U'.heap L ∧ FrameEnd U o U' L ({ frames := 0, cells := 0, slots := 0, locals := 0 } : Room).cells ({ frames := 0, cells := 0, slots := 0, locals := 0 } : Room).slots) := by
  refine MetFree.of_bodySF (Jvm.Free.JP.mathPlain rfl (by decide +kernel)) hisR ?_
  intro p e s m args below meth c s₁ Bd hml0 hP hK
  obtain ⟨rfl, hZ, hh⟩ := hP
  have hx := Bd.exec
  have hby := Bd.bytes
  have hml : c.maxLocals = 4 := hml0
  have hown : s.vm.findClass "java/lang/Math" = some m.cls := findClass_of_methodNamed Bd.named
  have hnm := (name_of_methodNamed Bd.named Bd.method).1
  have hlk : meth.locks = false := Bd.notSynchronized
  have X0 : Stand p l e ({ frames := 0, cells := 0, slots := 0, locals := 0 } : Room) s m #[(.long a), (.long b)] below meth c s₁ [] 0 0 := Stand.of_body Bd
  have e0 : s₁.heap = h0 := by rw [← hh, Bd.state]; rfl
  have Nf := Fr.nil n0
  refine (?_ : Win p.tables e below (PostQ s (Q2 Z a b h0 n0) ({ frames := 0, cells := 0, slots := 0, locals := 0 } : Room).cells ({ frames := 0, cells := 0, slots := 0, locals := 0 } : Room).slots) (s₁.setTop (entryFrame m #[(.long a), (.long b)] 4)))
  rw [ef_2]
  show Win p.tables e below _ (s₁.setTop (mkF m 0 #[.val (.long a), .second, .val (.long b), .second] []))
  refine s_lloadN (pc' := 1) X0.here hx (hb hby d2_0) rfl rfl ?_
  refine s_lloadN (pc' := 2) X0.here hx (hb hby d2_1) rfl rfl ?_
  refine s_lcmp (pc' := 3) X0.here hx (hb hby d2_2) rfl ?_
  by_cases hc3 : (a).toInt < (b).toInt
  · skip
    refine s_ifYes (pc' := 10) X0.here hx (hb hby d2_3) (tltL (x := a) (y := b) hc3).1 (by decide) (by decide) ?_
    refine s_lloadN (pc' := 11) X0.here hx (hb hby d2_10) rfl rfl ?_
    refine winL X0 hx hlk e0 Bd.returns (hb hby d2_11) (by decide) (by decide) ?_
    exact ⟨Nf, rfl, _, rfl, by omega⟩
  · skip
    refine s_ifNo (pc' := 6) X0.here hx (hb hby d2_3) rfl (fltL (x := a) (y := b) hc3).1 ?_
    refine s_lloadN (pc' := 7) X0.here hx (hb hby d2_6) rfl rfl ?_
    refine s_goto (pc' := 11) X0.here hx (hb hby d2_7) (by decide) (by decide) ?_
    refine winL X0 hx hlk e0 Bd.returns (hb hby d2_11) (by decide) (by decide) ?_
    exact ⟨Nf, rfl, _, rfl, by omega⟩
theorem d3_0 : decode prog_7_method_1_code 0 = .ok (.aload_n 0, 1) := by decide +kernel
theorem d3_1 : decode prog_7_method_1_code 1 = .ok (.invokespecial 1, 3) := by decide +kernel
theorem d3_4 : decode prog_7_method_1_code 4 = .ok (.aload_n 0, 1) := by decide +kernel
theorem d3_5 : decode prog_7_method_1_code 5 = .ok (.lload_n 1, 1) := by decide +kernel
theorem d3_6 : decode prog_7_method_1_code 6 = .ok (.putfield 7, 3) := by decide +kernel
theorem d3_9 : decode prog_7_method_1_code 9 = .ok (.return_, 1) := by decide +kernel
theorem pn_3 : plainName "com/example/nearstable/nearstable/asm/Quantiles" = true := by first | (simp [plainName, overriddenIn]; done) | decide +kernel
theorem ef_3 (m : MethodId) (a : Addr) (q1 : Int64) : entryFrame m #[(.ref a), (.long q1)] 3 = mkF m 0 #[.val (.ref a), .val (.long q1), .second] [] := by first | (simp [entryFrame, mkF, argsToLocals, Value.category]; done) | rfl
def Q3 (Z : State) (a : Addr) (q1 : Int64) (h0 : Heap) (n0 : Nat) (v : Option Value) (h : Heap) (L : List Loc) : Prop := Fr n0 L ∧ Keep h0 h [a] ∧ Fld Z h a "com/example/nearstable/nearstable/asm/Quantiles" "k" "J" (.long q1) ∧ v = none
set_option maxRecDepth 65536 in
set_option maxHeartbeats 40000000 in
theorem rm3 (l : Launch) (Z : State) (a0 : Array Value) (hw : ∀ d ∈ tables_1, d.before a0 Z = true) (ws : List Jvm.Cond) (a : Addr) (q1 : Int64) (h0 : Heap) (n0 : Nat) (Zs : n0 ≤ h0.size) (E_a : Exa Z h0 a "com/example/nearstable/nearstable/asm/Quantiles") (F_k_a : Fld Z h0 a "com/example/nearstable/nearstable/asm/Quantiles" "k" "J" (.long (0 : Int64))) (g_a : n0 ≤ a) :
    MetFree l (⟨"com/example/nearstable/nearstable/asm/Quantiles", "<init>", "(J)V"⟩ : MethodName) (head1 (Jvm.Cond.code (⟨"com/example/nearstable/nearstable/asm/Quantiles", "<init>", "(J)V"⟩ : MethodName) prog_7_method_1_code 3 none :: ws) ({ frames := 1, cells := 0, slots := 0, locals := 12 } : Room)) (fun as' U => as' = #[(.ref a), (.long q1)] ∧ Z.Warmed39 U.vm ∧ U.heap = h0) (fun _ _ _ _ _ => True) (fun _ U o U' => ∃ v L, o = .returned v ∧ Q3 Z a q1 h0 n0 v U'.heap L ∧ FrameEnd U o U' L ({ frames := 1, cells := 0, slots := 0, locals := 12 } : Room).cells ({ frames := 1, cells := 0, slots := 0, locals := 12 } : Room).slots) := by
  refine MetFree.of_bodySF (plainFor_of_name pn_3) hisR ?_
  intro p e s m args below meth c s₁ Bd hml0 hP hK
  obtain ⟨rfl, hZ, hh⟩ := hP
  have hx := Bd.exec
  have hby := Bd.bytes
  have hml : c.maxLocals = 3 := hml0
  have hown : s.vm.findClass "com/example/nearstable/nearstable/asm/Quantiles" = some m.cls := findClass_of_methodNamed Bd.named
  have hnm := (name_of_methodNamed Bd.named Bd.method).1
  have hlk : meth.locks = false := Bd.notSynchronized
  have X0 : Stand p l e ({ frames := 1, cells := 0, slots := 0, locals := 12 } : Room) s m #[(.ref a), (.long q1)] below meth c s₁ [] 0 0 := Stand.of_body Bd
  have e0 : s₁.heap = h0 := by rw [← hh, Bd.state]; rfl
  have Nf := Fr.nil n0
  refine (?_ : Win p.tables e below (PostQ s (Q3 Z a q1 h0 n0) ({ frames := 1, cells := 0, slots := 0, locals := 12 } : Room).cells ({ frames := 1, cells := 0, slots := 0, locals := 12 } : Room).slots) (s₁.setTop (entryFrame m #[(.ref a), (.long q1)] 3)))
  rw [ef_3]
  have Kp : Keep h0 h0 [a] := Keep.refl h0 _
  have lt_a : a < h0.size := E_a.lt
  show Win p.tables e below _ (s₁.setTop (mkF m 0 #[.val (.ref a), .val (.long q1), .second] []))
  refine s_aloadN (pc' := 1) X0.here hx (hb hby d3_0) rfl rfl rfl ?_
  obtain ⟨T_1, X_1, e_1, st_1⟩ := initO X0 hx hZ hown (hw _ (List.mem_of_getElem? (i := 15) rfl)) (hw _ (List.mem_of_getElem? (i := 16) rfl)) (hw _ (List.mem_of_getElem? (i := 17) rfl)) e0 (g := (mkF m 1 #[.val (.ref a), .val (.long q1), .second] [(.ref a)])) rfl (by rw [hml]; rfl) rfl (hb hby d3_1) (by decide) (W := 0) (by show 2 * 0 + _ ≤ _; exact Nat.le_of_eq rfl) (by decide)
  refine Win.go st_1 ?_
  show Win p.tables e below _ (T_1.setTop (mkF m 4 #[.val (.ref a), .val (.long q1), .second] []))
  refine s_aloadN (pc' := 5) X_1.here hx (hb hby d3_4) rfl rfl rfl ?_
  refine s_lloadN (pc' := 6) X_1.here hx (hb hby d3_5) rfl rfl ?_
  obtain ⟨T_2, h_2, X_2, e_2, W_2, st_2⟩ := putF X_1 hx hZ hown (host := "") (Or.inl (hw _ (List.mem_of_getElem? (i := 18) rfl))) Via.refl e_1 F_k_a E_a (Or.inr ⟨(hw _ (List.mem_of_getElem? (i := 19) rfl)), rfl, hnm⟩) (hw _ (List.mem_of_getElem? (i := 10) rfl)) (ty := .long) (by decide) rfl rfl (g := (mkF m 6 #[.val (.ref a), .val (.long q1), .second] [(.long q1), (.ref a)])) rfl rfl (hb hby d3_6)
  replace E_a := E_a.wr W_2
  replace lt_a := Nat.lt_of_lt_of_le lt_a (Keep.of_wr W_2).1
  replace Zs := Nat.le_trans Zs (Keep.of_wr W_2).1
  replace Kp := Kp.wr W_2 (Or.inl (by simp))
  replace F_k_a := F_k_a.same W_2
  replace Nf := Fr.snoc X_2 Nf g_a
  refine Win.go st_2 ?_
  show Win p.tables e below _ (T_2.setTop (mkF m 9 #[.val (.ref a), .val (.long q1), .second] []))
  refine winV X_2 hx hlk e_2 Bd.returns (hb hby d3_9) (by decide) (by decide) ?_
  exact ⟨Nf, Kp, F_k_a, rfl⟩
theorem d5_0 : decode prog_7_method_2_code 0 = .ok (.aload_n 0, 1) := by decide +kernel
theorem d5_1 : decode prog_7_method_2_code 1 = .ok (.getfield 7, 3) := by decide +kernel
theorem d5_4 : decode prog_7_method_2_code 4 = .ok (.iload_n 2, 1) := by decide +kernel
theorem d5_5 : decode prog_7_method_2_code 5 = .ok (.i2l, 1) := by decide +kernel
theorem d5_6 : decode prog_7_method_2_code 6 = .ok (.lcmp, 1) := by decide +kernel
theorem d5_7 : decode prog_7_method_2_code 7 = .ok (.ifCond .lt 8, 3) := by decide +kernel
theorem d5_10 : decode prog_7_method_2_code 10 = .ok (.iload_n 1, 1) := by decide +kernel
theorem d5_11 : decode prog_7_method_2_code 11 = .ok (.i2l, 1) := by decide +kernel
theorem d5_12 : decode prog_7_method_2_code 12 = .ok (.goto 18, 3) := by decide +kernel
theorem d5_15 : decode prog_7_method_2_code 15 = .ok (.aload_n 0, 1) := by decide +kernel
theorem d5_16 : decode prog_7_method_2_code 16 = .ok (.getfield 7, 3) := by decide +kernel
theorem d5_19 : decode prog_7_method_2_code 19 = .ok (.iload_n 1, 1) := by decide +kernel
theorem d5_20 : decode prog_7_method_2_code 20 = .ok (.i2l, 1) := by decide +kernel
theorem d5_21 : decode prog_7_method_2_code 21 = .ok (.lmul, 1) := by decide +kernel
theorem d5_22 : decode prog_7_method_2_code 22 = .ok (.iload_n 2, 1) := by decide +kernel
theorem d5_23 : decode prog_7_method_2_code 23 = .ok (.i2l, 1) := by decide +kernel
theorem d5_24 : decode prog_7_method_2_code 24 = .ok (.ladd, 1) := by decide +kernel
theorem d5_25 : decode prog_7_method_2_code 25 = .ok (.lconst 1, 1) := by decide +kernel
theorem d5_26 : decode prog_7_method_2_code 26 = .ok (.lsub, 1) := by decide +kernel
theorem d5_27 : decode prog_7_method_2_code 27 = .ok (.iload_n 2, 1) := by decide +kernel
theorem d5_28 : decode prog_7_method_2_code 28 = .ok (.i2l, 1) := by decide +kernel
theorem d5_29 : decode prog_7_method_2_code 29 = .ok (.ldiv, 1) := by decide +kernel
theorem d5_30 : decode prog_7_method_2_code 30 = .ok (.lreturn, 1) := by decide +kernel
theorem ef_5 (m : MethodId) (a : Addr) (p1 : Int32) (p2 : Int32) : entryFrame m #[(.ref a), (.int p1), (.int p2)] 3 = mkF m 0 #[.val (.ref a), .val (.int p1), .val (.int p2)] [] := by first | (simp [entryFrame, mkF, argsToLocals, Value.category]; done) | rfl
def Q5 (Z : State) (a : Addr) (p1 : Int32) (p2 : Int32) (u : Int64) (h0 : Heap) (n0 : Nat) (v : Option Value) (h : Heap) (L : List Loc) : Prop := Fr n0 L ∧ h = h0 ∧ (∃ z : Int64, v = some (.long z) ∧ ((p2.toInt ≤ u.toInt → z.toInt = p1.toInt) ∧ (u.toInt < p2.toInt → z.toInt = (u.toInt * p1.toInt + p2.toInt - 1) / p2.toInt)))
set_option maxRecDepth 65536 in
set_option maxHeartbeats 40000000 in
theorem rm5 (l : Launch) (Z : State) (a0 : Array Value) (hw : ∀ d ∈ tables_1, d.before a0 Z = true) (ws : List Jvm.Cond) (a : Addr) (p1 : Int32) (p2 : Int32) (u : Int64) (h0 : Heap) (n0 : Nat) (Zs : n0 ≤ h0.size) (F_k_a : Fld Z h0 a "com/example/nearstable/nearstable/asm/Quantiles" "k" "J" (.long u)) (hp : 1 ≤ p1.toInt ∧ p1.toInt ≤ p2.toInt ∧ 1 ≤ u.toInt) :
    MetFree l (⟨"com/example/nearstable/nearstable/asm/Quantiles", "of", "(II)J"⟩ : MethodName) (head1 (Jvm.Cond.code (⟨"com/example/nearstable/nearstable/asm/Quantiles", "of", "(II)J"⟩ : MethodName) prog_7_method_2_code 3 (some .long) :: ws) ({ frames := 0, cells := 0, slots := 0, locals := 0 } : Room)) (fun as' U => as' = #[(.ref a), (.int p1), (.int p2)] ∧ Z.Warmed39 U.vm ∧ U.heap = h0) (fun _ _ _ _ _ => True) (fun _ U o U' => ∃ v L, o = .returned v ∧ Q5 Z a p1 p2 u h0 n0 v U'.heap L ∧ FrameEnd U o U' L ({ frames := 0, cells := 0, slots := 0, locals := 0 } : Room).cells ({ frames := 0, cells := 0, slots := 0, locals := 0 } : Room).slots) := by
  refine MetFree.of_bodySF (plainFor_of_name pn_3) hisR ?_
  intro p e s m args below meth c s₁ Bd hml0 hP hK
  obtain ⟨rfl, hZ, hh⟩ := hP
  have hx := Bd.exec
  have hby := Bd.bytes
  have hml : c.maxLocals = 3 := hml0
  have hown : s.vm.findClass "com/example/nearstable/nearstable/asm/Quantiles" = some m.cls := findClass_of_methodNamed Bd.named
  have hnm := (name_of_methodNamed Bd.named Bd.method).1
  have hlk : meth.locks = false := Bd.notSynchronized
  have X0 : Stand p l e ({ frames := 0, cells := 0, slots := 0, locals := 0 } : Room) s m #[(.ref a), (.int p1), (.int p2)] below meth c s₁ [] 0 0 := Stand.of_body Bd
  have e0 : s₁.heap = h0 := by rw [← hh, Bd.state]; rfl
  have Nf := Fr.nil n0
  refine (?_ : Win p.tables e below (PostQ s (Q5 Z a p1 p2 u h0 n0) ({ frames := 0, cells := 0, slots := 0, locals := 0 } : Room).cells ({ frames := 0, cells := 0, slots := 0, locals := 0 } : Room).slots) (s₁.setTop (entryFrame m #[(.ref a), (.int p1), (.int p2)] 3)))
  rw [ef_5]
  have lt_a : a < h0.size := F_k_a.lt
  show Win p.tables e below _ (s₁.setTop (mkF m 0 #[.val (.ref a), .val (.int p1), .val (.int p2)] []))
  refine s_aloadN (pc' := 1) X0.here hx (hb hby d5_0) rfl rfl rfl ?_
  obtain ⟨T_3, X_3, e_3, st_3⟩ := getF X0 hx hZ hown (host := "") (Or.inl (hw _ (List.mem_of_getElem? (i := 18) rfl))) Via.refl e0 F_k_a (g := (mkF m 1 #[.val (.ref a), .val (.int p1), .val (.int p2)] [(.ref a)])) rfl rfl (hb hby d5_1)
  refine Win.go st_3 ?_
  show Win p.tables e below _ (T_3.setTop (mkF m 4 #[.val (.ref a), .val (.int p1), .val (.int p2)] [(.long u)]))
  have hu := c_i2l p2
  have hv := c_i2l p1
  have r2 := rng32 p2
  refine s_iloadN (pc' := 5) X_3.here hx (hb hby d5_4) rfl rfl ?_
  refine Win.go (fun _ k => XS.i2l X_3.here hx rfl (hb hby d5_5) rfl k) ?_
  show Win p.tables e below _ (T_3.setTop (mkF m 6 #[.val (.ref a), .val (.int p1), .val (.int p2)] [(.long (p2.toInt64)), (.long u)]))
  refine s_lcmp (pc' := 7) X_3.here hx (hb hby d5_6) rfl ?_
  by_cases hc7 : (u).toInt < ((p2.toInt64)).toInt
  · skip
    refine s_ifYes (pc' := 15) X_3.here hx (hb hby d5_7) (tltL (x := u) (y := (p2.toInt64)) hc7).1 (by decide) (by decide) ?_
    refine s_aloadN (pc' := 16) X_3.here hx (hb hby d5_15) rfl rfl rfl ?_
    obtain ⟨T_4, X_4, e_4, st_4⟩ := getF X_3 hx hZ hown (host := "") (Or.inl (hw _ (List.mem_of_getElem? (i := 18) rfl))) Via.refl e_3 F_k_a (g := (mkF m 16 #[.val (.ref a), .val (.int p1), .val (.int p2)] [(.ref a)])) rfl rfl (hb hby d5_16)
    refine Win.go st_4 ?_
    show Win p.tables e below _ (T_4.setTop (mkF m 19 #[.val (.ref a), .val (.int p1), .val (.int p2)] [(.long u)]))
    refine s_iloadN (pc' := 20) X_4.here hx (hb hby d5_19) rfl rfl ?_
    refine Win.go (fun _ k => XS.i2l X_4.here hx rfl (hb hby d5_20) rfl k) ?_
    show Win p.tables e below _ (T_4.setTop (mkF m 21 #[.val (.ref a), .val (.int p1), .val (.int p2)] [(.long (p1.toInt64)), (.long u)]))
    refine s_lmul (pc' := 22) X_4.here hx (hb hby d5_21) rfl ?_
    refine s_iloadN (pc' := 23) X_4.here hx (hb hby d5_22) rfl rfl ?_
    refine Win.go (fun _ k => XS.i2l X_4.here hx rfl (hb hby d5_23) rfl k) ?_
    show Win p.tables e below _ (T_4.setTop (mkF m 24 #[.val (.ref a), .val (.int p1), .val (.int p2)] [(.long (p2.toInt64)), (.long (u * (p1.toInt64)))]))
    refine s_ladd (pc' := 25) X_4.here hx (hb hby d5_24) rfl ?_
    refine s_lconst (pc' := 26) (z := (1 : Int64)) X_4.here hx (hb hby d5_25) rfl rfl ?_
    refine s_lsub (pc' := 27) X_4.here hx (hb hby d5_26) rfl ?_
    refine s_iloadN (pc' := 28) X_4.here hx (hb hby d5_27) rfl rfl ?_
    refine Win.go (fun _ k => XS.i2l X_4.here hx rfl (hb hby d5_28) rfl k) ?_
    show Win p.tables e below _ (T_4.setTop (mkF m 29 #[.val (.ref a), .val (.int p1), .val (.int p2)] [(.long (p2.toInt64)), (.long (((u * (p1.toInt64)) + (p2.toInt64)) - (1 : Int64)))]))
    have hnz29 := own_nzL (x := p2) (by omega)
    refine Win.go (fun _ k => XS.ldiv X_4.here hx rfl (hb hby d5_29) rfl hnz29 k) ?_
    show Win p.tables e below _ (T_4.setTop (mkF m 30 #[.val (.ref a), .val (.int p1), .val (.int p2)] [(.long ((((u * (p1.toInt64)) + (p2.toInt64)) - (1 : Int64)) / (p2.toInt64)))]))
    refine winL X_4 hx hlk e_4 Bd.returns (hb hby d5_30) (by decide) (by decide) ?_
    refine ⟨Nf, rfl, _, rfl, ?_⟩
    refine ⟨fun h => by omega, fun h => ?_⟩
    have m1 := own_lm (x := u) (y := p1.toInt64) (by omega) (by omega) (by omega) (by omega)
    have b1 := own_prod (x := u.toInt) (y := p1.toInt) (by omega) (by omega) (by omega) (by omega)
    rw [hv] at m1
    have m2 := c_ladd (u * p1.toInt64) p2.toInt64
    have m3 := c_lsub (u * p1.toInt64 + p2.toInt64) 1
    have m4 := rng64 (u * p1.toInt64 + p2.toInt64)
    have m5 := rng64 (u * p1.toInt64 + p2.toInt64 - 1)
    have m6 : (1 : Int64).toInt = 1 := rfl
    have m7 : (u * p1.toInt64 + p2.toInt64 - 1).toInt = u.toInt * p1.toInt + p2.toInt - 1 := by rw [← m1]; rw [← m1] at b1; omega
    rw [own_ediv (by rw [m7]; omega) (by omega), m7, hu]
  · skip
    refine s_ifNo (pc' := 10) X_3.here hx (hb hby d5_7) rfl (fltL (x := u) (y := (p2.toInt64)) hc7).1 ?_
    refine s_iloadN (pc' := 11) X_3.here hx (hb hby d5_10) rfl rfl ?_
    refine Win.go (fun _ k => XS.i2l X_3.here hx rfl (hb hby d5_11) rfl k) ?_
    show Win p.tables e below _ (T_3.setTop (mkF m 12 #[.val (.ref a), .val (.int p1), .val (.int p2)] [(.long (p1.toInt64))]))
    refine s_goto (pc' := 30) X_3.here hx (hb hby d5_12) (by decide) (by decide) ?_
    refine winL X_3 hx hlk e_3 Bd.returns (hb hby d5_30) (by decide) (by decide) ?_
    refine ⟨Nf, rfl, _, rfl, ?_⟩
    exact ⟨fun _ => hv, fun h => by omega⟩
theorem pn_0 : plainName "com/example/nearstable/nearstable/asm/QuantilesOfPinLaw" = true := by first | (simp [plainName, overriddenIn]; done) | decide +kernel
theorem pd_0 : parseMethodDescriptor "(II)I" = some ⟨[.int, .int], some .int⟩ := by decide +kernel
theorem pd_1 : parseMethodDescriptor "(JJ)J" = some ⟨[.long, .long], some .long⟩ := by decide +kernel
theorem pd_2 : parseMethodDescriptor "(J)V" = some ⟨[.long], none⟩ := by decide +kernel
theorem pd_3 : parseMethodDescriptor "(II)J" = some ⟨[.int, .int], some .long⟩ := by decide +kernel
theorem ef_0 (m : MethodId) (q0 : Int64) (p1 : Int32) (p2 : Int32) (p3 : Int32) : entryFrame m #[(.long q0), (.int p1), (.int p2), (.int p3)] maxLocals = mkF m 0 #[.val (.long q0), .second, .val (.int p1), .val (.int p2), .val (.int p3), .unset, .unset, .unset, .unset, .unset, .unset, .unset, .unset] [] := by first | (simp [entryFrame, mkF, argsToLocals, Value.category, maxLocals]; done) | rfl
def Q0 (Z : State) (q0 : Int64) (p1 : Int32) (p2 : Int32) (p3 : Int32) (h0 : Heap) (n0 : Nat) (v : Option Value) (h : Heap) (L : List Loc) : Prop := Fr n0 L ∧ v = some (.int 1)
set_option maxRecDepth 65536 in
set_option maxHeartbeats 40000000 in
theorem rm0 (l : Launch) (Z : State) (a0 : Array Value) (hw : ∀ d ∈ tables_1, d.before a0 Z = true) (ws : List Jvm.Cond) (q0 : Int64) (p1 : Int32) (p2 : Int32) (p3 : Int32) (h0 : Heap) (n0 : Nat) (Zs : n0 ≤ h0.size) :
    MetFree l x (head1 (Jvm.Cond.code x code maxLocals ret :: ws) room_1) (fun as' U => as' = #[(.long q0), (.int p1), (.int p2), (.int p3)] ∧ Z.Warmed39 U.vm ∧ U.heap = h0) (fun _ _ _ _ _ => True) (fun _ U o U' => ∃ v L, o = .returned v ∧ Q0 Z q0 p1 p2 p3 h0 n0 v U'.heap L ∧ FrameEnd U o U' L room_1.cells room_1.slots) := by
  refine MetFree.of_bodySF (plainFor_of_name pn_0) hisR ?_
  intro p e s m args below meth c s₁ Bd hml0 hP hK
  obtain ⟨rfl, hZ, hh⟩ := hP
  have hx := Bd.exec
  have hby := Bd.bytes
  have hml : c.maxLocals = 13 := hml0
  have hown : s.vm.findClass "com/example/nearstable/nearstable/asm/QuantilesOfPinLaw" = some m.cls := findClass_of_methodNamed Bd.named
  have hnm := (name_of_methodNamed Bd.named Bd.method).1
  have hlk : meth.locks = false := Bd.notSynchronized
  have X0 : Stand p l e room_1 s m #[(.long q0), (.int p1), (.int p2), (.int p3)] below meth c s₁ [] 0 0 := Stand.of_body Bd
  have e0 : s₁.heap = h0 := by rw [← hh, Bd.state]; rfl
  have Nf := Fr.nil n0
  refine (?_ : Win p.tables e below (PostQ s (Q0 Z q0 p1 p2 p3 h0 n0) room_1.cells room_1.slots) (s₁.setTop (entryFrame m #[(.long q0), (.int p1), (.int p2), (.int p3)] maxLocals)))
  rw [ef_0]
  show Win p.tables e below _ (s₁.setTop (mkF m 0 #[.val (.long q0), .second, .val (.int p1), .val (.int p2), .val (.int p3), .unset, .unset, .unset, .unset, .unset, .unset, .unset, .unset] []))
  refine s_iconst (pc' := 1) (z := (1 : Int32)) X0.here hx (hb hby at_0) rfl rfl ?_
  refine s_iloadN (pc' := 2) X0.here hx (hb hby at_1) rfl rfl ?_
  refine Win.go (fun _ k => X0.ldcInt hx hown (mvT hZ (hw _ (List.mem_of_getElem? (i := 0) rfl))) (g := (mkF m 2 #[.val (.long q0), .second, .val (.int p1), .val (.int p2), .val (.int p3), .unset, .unset, .unset, .unset, .unset, .unset, .unset, .unset] [(.int p2), (.int (1 : Int32))])) rfl (hb hby at_2) _ k) ?_
  show Win p.tables e below _ (s₁.setTop (mkF m 4 #[.val (.long q0), .second, .val (.int p1), .val (.int p2), .val (.int p3), .unset, .unset, .unset, .unset, .unset, .unset, .unset, .unset] [(.int (2147483647 : Int32)), (.int p2), (.int (1 : Int32))]))
  refine s_iand (pc' := 5) X0.here hx (hb hby at_4) rfl ?_
  obtain ⟨_, _, ⟨T_5, L_5, k_5, n_5⟩, -, X_5, ⟨Lc_5, hQ_5, l_5, y_5, z_5⟩, st_5⟩ := Jvm.LawKit.callS X0 hx (y := (⟨"java/lang/Math", "max", "(II)I"⟩ : MethodName)) hown (mvT hZ (hw _ (List.mem_of_getElem? (i := 1) rfl))) (mvT hZ (hw _ (List.mem_of_getElem? (i := 2) rfl))) (mvT hZ (hw _ (List.mem_of_getElem? (i := 3) rfl))) (mvT hZ (hw _ (List.mem_of_getElem? (i := 4) rfl))) (by decide) (backOf (W := 0) (rm1 l Z a0 hw [] (1 : Int32) (p2 &&& (2147483647 : Int32)) h0 n0 Zs ) hZ (hw _ (List.mem_of_getElem? (i := 4) rfl)) (hw _ (List.mem_of_getElem? (i := 3) rfl)) (by decide) (by decide)) (g := (mkF m 5 #[.val (.long q0), .second, .val (.int p1), .val (.int p2), .val (.int p3), .unset, .unset, .unset, .unset, .unset, .unset, .unset, .unset] [(.int (p2 &&& (2147483647 : Int32))), (.int (1 : Int32))])) rfl (by rw [hml]; rfl) (argsL := [(.int (1 : Int32)), (.int (p2 &&& (2147483647 : Int32)))]) (rest := []) (lenOf pd_0 rfl) rfl (by show 2 * 0 + _ ≤ _; exact Nat.le_of_eq rfl) (hb hby at_5) (fun _ _ => ⟨rfl, e0, (by decide : 0 + 0 ≤ _), (by decide : 0 + 0 ≤ _)⟩)
  dsimp only [Pt.U, Pt.locs, Pt.cells, Pt.slots] at X_5 l_5 y_5 z_5 st_5 hQ_5
  subst l_5 y_5 z_5
  obtain ⟨Nq_5, e_5, dg, rfl, hdg⟩ := hQ_5
  replace Nf := Fr.app Nf Nq_5
  refine Win.go st_5 ?_
  show Win p.tables e below _ (T_5.setTop (mkF m 8 #[.val (.long q0), .second, .val (.int p1), .val (.int p2), .val (.int p3), .unset, .unset, .unset, .unset, .unset, .unset, .unset, .unset] [(.int dg)]))
  refine s_istore (pc' := 10) (l' := #[.val (.long q0), .second, .val (.int p1), .val (.int p2), .val (.int p3), .val (.int dg), .unset, .unset, .unset, .unset, .unset, .unset, .unset]) X_5.here hx (hb hby at_8) rfl rfl ?_
  have e1 : (1 : Int32).toInt = 1 := rfl
  rw [e1] at hdg
  have rdg := rng32 dg
  have hnz17 := own_nz (x := dg) (by omega)
  refine s_iconst (pc' := 11) (z := (1 : Int32)) X_5.here hx (hb hby at_10) rfl rfl ?_
  refine s_iloadN (pc' := 12) X_5.here hx (hb hby at_11) rfl rfl ?_
  refine Win.go (fun _ k => X_5.ldcInt hx hown (mvT hZ (hw _ (List.mem_of_getElem? (i := 0) rfl))) (g := (mkF m 12 #[.val (.long q0), .second, .val (.int p1), .val (.int p2), .val (.int p3), .val (.int dg), .unset, .unset, .unset, .unset, .unset, .unset, .unset] [(.int p1), (.int (1 : Int32))])) rfl (hb hby at_12) _ k) ?_
  show Win p.tables e below _ (T_5.setTop (mkF m 14 #[.val (.long q0), .second, .val (.int p1), .val (.int p2), .val (.int p3), .val (.int dg), .unset, .unset, .unset, .unset, .unset, .unset, .unset] [(.int (2147483647 : Int32)), (.int p1), (.int (1 : Int32))]))
  refine s_iand (pc' := 15) X_5.here hx (hb hby at_14) rfl ?_
  refine s_iload (pc' := 17) X_5.here hx (hb hby at_15) rfl rfl ?_
  refine Win.go (fun _ k => iremM X_5 hx rfl (hb hby at_17) rfl hnz17 k) ?_
  show Win p.tables e below _ (T_5.setTop (mkF m 18 #[.val (.long q0), .second, .val (.int p1), .val (.int p2), .val (.int p3), .val (.int dg), .unset, .unset, .unset, .unset, .unset, .unset, .unset] [(.int ((p1 &&& (2147483647 : Int32)) % dg)), (.int (1 : Int32))]))
  refine s_iadd (pc' := 19) X_5.here hx (hb hby at_18) rfl ?_
  refine s_istore (pc' := 21) (l' := #[.val (.long q0), .second, .val (.int p1), .val (.int p2), .val (.int p3), .val (.int dg), .val (.int ((1 : Int32) + ((p1 &&& (2147483647 : Int32)) % dg))), .unset, .unset, .unset, .unset, .unset, .unset]) X_5.here hx (hb hby at_19) rfl rfl ?_
  generalize hrk : ((1 : Int32) + ((p1 &&& (2147483647 : Int32)) % dg)) = rk
  show Win p.tables e below _ (T_5.setTop (mkF m 21 #[.val (.long q0), .second, .val (.int p1), .val (.int p2), .val (.int p3), .val (.int dg), .val (.int rk), .unset, .unset, .unset, .unset, .unset, .unset] []))
  have brk : 1 ≤ rk.toInt ∧ rk.toInt ≤ dg.toInt := by
    have h1 := own_m31 p1
    have h2 := (c_iremV (p1 &&& (2147483647 : Int32)) dg).1 h1 (by omega)
    have h3 := c_iadd 1 ((p1 &&& (2147483647 : Int32)) % dg)
    rw [hrk] at h3
    have h4 := rng32 rk
    omega
  refine s_iload (pc' := 23) X_5.here hx (hb hby at_21) rfl rfl ?_
  refine s_iconst (pc' := 24) (z := (1 : Int32)) X_5.here hx (hb hby at_23) rfl rfl ?_
  refine s_iand (pc' := 25) X_5.here hx (hb hby at_24) rfl ?_
  by_cases hc25 : ((p3 &&& (1 : Int32))).toInt = (0 : Int)
  · skip
    refine s_ifYes (pc' := 44) X_5.here hx (hb hby at_25) ((if0 _ _).trans (teqI (x := (p3 &&& (1 : Int32))) (y := (0 : Int32)) hc25).1) (by decide) (by decide) ?_
    refine s_lconst (pc' := 45) (z := (1 : Int64)) X_5.here hx (hb hby at_44) rfl rfl ?_
    refine s_lloadN (pc' := 46) X_5.here hx (hb hby at_45) rfl rfl ?_
    refine Win.go (fun _ k => X_5.ldc2Long hx hown (mvT hZ (hw _ (List.mem_of_getElem? (i := 5) rfl))) (g := (mkF m 46 #[.val (.long q0), .second, .val (.int p1), .val (.int p2), .val (.int p3), .val (.int dg), .val (.int rk), .unset, .unset, .unset, .unset, .unset, .unset] [(.long q0), (.long (1 : Int64))])) rfl (hb hby at_46) _ k) ?_
    show Win p.tables e below _ (T_5.setTop (mkF m 49 #[.val (.long q0), .second, .val (.int p1), .val (.int p2), .val (.int p3), .val (.int dg), .val (.int rk), .unset, .unset, .unset, .unset, .unset, .unset] [(.long (9223372036854775807 : Int64)), (.long q0), (.long (1 : Int64))]))
    refine s_land (pc' := 50) X_5.here hx (hb hby at_49) rfl ?_
    obtain ⟨_, _, ⟨T_6, L_6, k_6, n_6⟩, -, X_6, ⟨Lc_6, hQ_6, l_6, y_6, z_6⟩, st_6⟩ := Jvm.LawKit.callS X_5 hx (y := (⟨"java/lang/Math", "max", "(JJ)J"⟩ : MethodName)) hown (mvT hZ (hw _ (List.mem_of_getElem? (i := 6) rfl))) (mvT hZ (hw _ (List.mem_of_getElem? (i := 7) rfl))) (mvT hZ (hw _ (List.mem_of_getElem? (i := 3) rfl))) (mvT hZ (hw _ (List.mem_of_getElem? (i := 8) rfl))) (by decide) (backOf (W := 0) (rm2 l Z a0 hw [] (1 : Int64) (q0 &&& (9223372036854775807 : Int64)) h0 n0 Zs ) hZ (hw _ (List.mem_of_getElem? (i := 8) rfl)) (hw _ (List.mem_of_getElem? (i := 3) rfl)) (by decide) (by decide)) (g := (mkF m 50 #[.val (.long q0), .second, .val (.int p1), .val (.int p2), .val (.int p3), .val (.int dg), .val (.int rk), .unset, .unset, .unset, .unset, .unset, .unset] [(.long (q0 &&& (9223372036854775807 : Int64))), (.long (1 : Int64))])) rfl (by rw [hml]; rfl) (argsL := [(.long (1 : Int64)), (.long (q0 &&& (9223372036854775807 : Int64)))]) (rest := []) (lenOf pd_1 rfl) rfl (by show 2 * 0 + _ ≤ _; exact Nat.le_of_eq rfl) (hb hby at_50) (fun _ _ => ⟨rfl, e_5, (by decide : 0 + 0 ≤ _), (by decide : 0 + 0 ≤ _)⟩)
    dsimp only [Pt.U, Pt.locs, Pt.cells, Pt.slots] at X_6 l_6 y_6 z_6 st_6 hQ_6
    subst l_6 y_6 z_6
    obtain ⟨Nq_6, e_6, kq, rfl, hkq⟩ := hQ_6
    replace Nf := Fr.app Nf Nq_6
    refine Win.go st_6 ?_
    show Win p.tables e below _ (T_6.setTop (mkF m 53 #[.val (.long q0), .second, .val (.int p1), .val (.int p2), .val (.int p3), .val (.int dg), .val (.int rk), .unset, .unset, .unset, .unset, .unset, .unset] [(.long kq)]))
    refine s_lstore (pc' := 55) (l' := #[.val (.long q0), .second, .val (.int p1), .val (.int p2), .val (.int p3), .val (.int dg), .val (.int rk), .val (.long kq), .second, .unset, .unset, .unset, .unset]) X_6.here hx (hb hby at_53) rfl rfl ?_
    show Win p.tables e below _ (T_6.setTop (mkF m 55 #[.val (.long q0), .second, .val (.int p1), .val (.int p2), .val (.int p3), .val (.int dg), .val (.int rk), .val (.long kq), .second, .unset, .unset, .unset, .unset] []))
    have bkq : 1 ≤ kq.toInt := by
      have h6 : (1 : Int64).toInt = 1 := rfl
      omega
    obtain ⟨T_7, h_7, X_7, e_7, Ex_7, A_7, D_7, -, st_7⟩ := newO X_6 hx hZ hown (hw _ (List.mem_of_getElem? (i := 9) rfl)) (hw _ (List.mem_of_getElem? (i := 10) rfl)) (hw _ (List.mem_of_getElem? (i := 11) rfl)) e_6 (g := (mkF m 55 #[.val (.long q0), .second, .val (.int p1), .val (.int p2), .val (.int p3), .val (.int dg), .val (.int rk), .val (.long kq), .second, .unset, .unset, .unset, .unset] [])) rfl (hb hby at_55) (by decide) (by decide)
    obtain ⟨b_7, g_7⟩ : ∃ z, z = h0.size := ⟨_, rfl⟩
    have g_b_7 : n0 ≤ b_7 := Nat.le_trans Zs (Nat.le_of_eq g_7.symm)
    rw [← g_7] at A_7 D_7 st_7
    replace Zs := Nat.le_trans Zs Ex_7.1
    have E_b_7 := A_7
    have lt_b_7 := E_b_7.lt
    have F_k_b_7 : Fld Z h_7 b_7 "com/example/nearstable/nearstable/asm/Quantiles" "k" "J" (.long (0 : Int64)) := D_7 (Or.inr (hw _ (List.mem_of_getElem? (i := 19) rfl))) (ty := .long) (by decide)
    refine Win.go st_7 ?_
    show Win p.tables e below _ (T_7.setTop (mkF m 58 #[.val (.long q0), .second, .val (.int p1), .val (.int p2), .val (.int p3), .val (.int dg), .val (.int rk), .val (.long kq), .second, .unset, .unset, .unset, .unset] [(.ref b_7)]))
    refine s_dup (pc' := 59) X_7.here hx (hb hby at_58) rfl rfl ?_
    refine s_lload (pc' := 61) X_7.here hx (hb hby at_59) rfl rfl ?_
    obtain ⟨_, _, ⟨T_8, L_8, k_8, n_8⟩, -, X_8, ⟨Lc_8, hQ_8, l_8, y_8, z_8⟩, st_8⟩ := X_7.specialBack hx (y := (⟨"com/example/nearstable/nearstable/asm/Quantiles", "<init>", "(J)V"⟩ : MethodName)) rfl hown (mvT hZ (hw _ (List.mem_of_getElem? (i := 12) rfl))) (mvT hZ (hw _ (List.mem_of_getElem? (i := 13) rfl))) (mvT hZ (hw _ (List.mem_of_getElem? (i := 14) rfl))) (by decide) (backOf (W := 1) (rm3 l Z a0 hw [] b_7 kq h_7 n0 Zs E_b_7 F_k_b_7 g_b_7) hZ (hw _ (List.mem_of_getElem? (i := 14) rfl)) (hw _ (List.mem_of_getElem? (i := 11) rfl)) (by decide) (by decide)) (g := (mkF m 61 #[.val (.long q0), .second, .val (.int p1), .val (.int p2), .val (.int p3), .val (.int dg), .val (.int rk), .val (.long kq), .second, .unset, .unset, .unset, .unset] [(.long kq), (.ref b_7), (.ref b_7)])) rfl (by rw [hml]; rfl) (Steps.refl _) (a := b_7) (argsL := [(.long kq)]) (rest := [(.ref b_7)]) (lenOf pd_2 rfl) rfl (by show 2 * 0 + _ ≤ _; exact Nat.le_of_eq rfl) (hb hby at_61) (fun _ _ => ⟨rfl, e_7, (by decide : 1 + 0 ≤ _), (by decide : 1 + 0 ≤ _)⟩)
    dsimp only [Pt.U, Pt.locs, Pt.cells, Pt.slots] at X_8 l_8 y_8 z_8 st_8 hQ_8
    subst l_8 y_8 z_8
    obtain ⟨h_8, e_8⟩ : ∃ z, T_8.heap = z := ⟨_, rfl⟩
    rw [e_8] at hQ_8
    obtain ⟨Nq_8, K_8, n_8_F_k_b_7, rfl⟩ := hQ_8
    replace Nf := Fr.app Nf Nq_8
    replace E_b_7 := E_b_7.keep K_8
    clear F_k_b_7
    replace lt_b_7 := Nat.lt_of_lt_of_le lt_b_7 K_8.1
    replace Zs := Nat.le_trans Zs K_8.1
    have F_k_b_7 := n_8_F_k_b_7
    refine Win.come st_8 ?_
    show Win p.tables e below _ (T_8.setTop (mkF m 64 #[.val (.long q0), .second, .val (.int p1), .val (.int p2), .val (.int p3), .val (.int dg), .val (.int rk), .val (.long kq), .second, .unset, .unset, .unset, .unset] [(.ref b_7)]))
    refine s_iload (pc' := 66) X_8.here hx (hb hby at_64) rfl rfl ?_
    refine s_iload (pc' := 68) X_8.here hx (hb hby at_66) rfl rfl ?_
    obtain ⟨cq_9, kq_9, q_9a, q_9b, q_9c⟩ := isOf hZ e_8 E_b_7
    obtain ⟨_, _, ⟨T_9, L_9, k_9, n_9⟩, -, X_9, ⟨Lc_9, hQ_9, l_9, y_9, z_9⟩, st_9⟩ := X_8.virtualBack hx (y := (⟨"com/example/nearstable/nearstable/asm/Quantiles", "of", "(II)J"⟩ : MethodName)) (z := (⟨"com/example/nearstable/nearstable/asm/Quantiles", "of", "(II)J"⟩ : MethodName)) hown (mvT hZ (hw _ (List.mem_of_getElem? (i := 20) rfl))) (mvT hZ (hw _ (List.mem_of_getElem? (i := 21) rfl))) (notFace_of_selects (args := #[]) (mvT hZ (hw _ (List.mem_of_getElem? (i := 23) rfl)))) (mvT hZ (hw _ (List.mem_of_getElem? (i := 23) rfl))) (mvT hZ (hw _ (List.mem_of_getElem? (i := 22) rfl))) (by decide) (backOf (W := 0) (rm5 l Z a0 hw [] b_7 rk dg kq h_8 n0 Zs F_k_b_7 (by omega)) hZ (hw _ (List.mem_of_getElem? (i := 24) rfl)) (hw _ (List.mem_of_getElem? (i := 11) rfl)) (by decide) (by decide)) q_9a q_9c (g := (mkF m 68 #[.val (.long q0), .second, .val (.int p1), .val (.int p2), .val (.int p3), .val (.int dg), .val (.int rk), .val (.long kq), .second, .unset, .unset, .unset, .unset] [(.int dg), (.int rk), (.ref b_7)])) rfl (by rw [hml]; rfl) (Steps.refl _) (argsL := [(.int rk), (.int dg)]) (rest := []) (lenOf pd_3 rfl) rfl (by show 2 * 0 + _ ≤ _; exact Nat.le_of_eq rfl) (hb hby at_68) (fun _ _ => ⟨rfl, e_8, (by decide : 1 + 0 ≤ _), (by decide : 1 + 0 ≤ _)⟩)
    dsimp only [Pt.U, Pt.locs, Pt.cells, Pt.slots] at X_9 l_9 y_9 z_9 st_9 hQ_9
    subst l_9 y_9 z_9
    obtain ⟨Nq_9, e_9, q, rfl, hq⟩ := hQ_9
    replace Nf := Fr.app Nf Nq_9
    refine Win.come st_9 ?_
    show Win p.tables e below _ (T_9.setTop (mkF m 71 #[.val (.long q0), .second, .val (.int p1), .val (.int p2), .val (.int p3), .val (.int dg), .val (.int rk), .val (.long kq), .second, .unset, .unset, .unset, .unset] [(.long q)]))
    have hzq := hq
    have n1' := c_i2l rk
    have n2' := c_i2l dg
    refine s_lstore (pc' := 73) (l' := #[.val (.long q0), .second, .val (.int p1), .val (.int p2), .val (.int p3), .val (.int dg), .val (.int rk), .val (.long kq), .second, .val (.long q), .second, .unset, .unset]) X_9.here hx (hb hby at_71) rfl rfl ?_
    refine s_lload (pc' := 75) X_9.here hx (hb hby at_73) rfl rfl ?_
    refine s_iload (pc' := 77) X_9.here hx (hb hby at_75) rfl rfl ?_
    refine Win.go (fun _ k => XS.i2l X_9.here hx rfl (hb hby at_77) rfl k) ?_
    show Win p.tables e below _ (T_9.setTop (mkF m 78 #[.val (.long q0), .second, .val (.int p1), .val (.int p2), .val (.int p3), .val (.int dg), .val (.int rk), .val (.long kq), .second, .val (.long q), .second, .unset, .unset] [(.long (dg.toInt64)), (.long kq)]))
    refine s_lcmp (pc' := 79) X_9.here hx (hb hby at_78) rfl ?_
    by_cases hc79 : (kq).toInt < ((dg.toInt64)).toInt
    · skip
      refine s_ifYes (pc' := 97) X_9.here hx (hb hby at_79) (tltL (x := kq) (y := (dg.toInt64)) hc79).1 (by decide) (by decide) ?_
      refine s_lload (pc' := 99) X_9.here hx (hb hby at_97) rfl rfl ?_
      refine s_iload (pc' := 101) X_9.here hx (hb hby at_99) rfl rfl ?_
      refine Win.go (fun _ k => XS.i2l X_9.here hx rfl (hb hby at_101) rfl k) ?_
      show Win p.tables e below _ (T_9.setTop (mkF m 102 #[.val (.long q0), .second, .val (.int p1), .val (.int p2), .val (.int p3), .val (.int dg), .val (.int rk), .val (.long kq), .second, .val (.long q), .second, .unset, .unset] [(.long (rk.toInt64)), (.long kq)]))
      refine s_lmul (pc' := 103) X_9.here hx (hb hby at_102) rfl ?_
      refine s_lstore (pc' := 105) (l' := #[.val (.long q0), .second, .val (.int p1), .val (.int p2), .val (.int p3), .val (.int dg), .val (.int rk), .val (.long kq), .second, .val (.long q), .second, .val (.long (kq * (rk.toInt64))), .second]) X_9.here hx (hb hby at_103) rfl rfl ?_
      generalize hpp : (kq * (rk.toInt64)) = pp
      show Win p.tables e below _ (T_9.setTop (mkF m 105 #[.val (.long q0), .second, .val (.int p1), .val (.int p2), .val (.int p3), .val (.int dg), .val (.int rk), .val (.long kq), .second, .val (.long q), .second, .val (.long pp), .second] []))
      have Q := own_q kq.toInt rk.toInt dg.toInt (by omega) (by omega) (by omega) (by omega)
      have zq := hzq.2 (by omega)
      have qb := own_prod (x := kq.toInt) (y := rk.toInt) (by omega) (by omega) (by omega) (by omega)
      rw [← zq] at Q
      have n1 := c_i2l rk
      have n2 := c_i2l dg
      have n3 := own_lm (x := kq) (y := rk.toInt64) (by omega) (by omega) (by omega) (by omega)
      rw [n1, hpp] at n3
      have n4 := c_lmul q dg.toInt64
      have n5 := c_lmul (q - 1) dg.toInt64
      have n6 := c_lsub q 1
      have n7 : (1 : Int64).toInt = 1 := rfl
      have n8 := rng64 (q * dg.toInt64)
      have n9 := rng64 ((q - 1) * dg.toInt64)
      have n10 := rng64 (q - 1)
      have n11 : (q - 1).toInt = q.toInt - 1 := by omega
      rw [n2] at n4 n5
      rw [n11] at n5
      have n12 : (q.toInt - 1) * dg.toInt = q.toInt * dg.toInt - dg.toInt := by rw [Int.sub_mul, Int.one_mul]
      rw [n12] at n5 Q
      generalize q.toInt * dg.toInt = QD at *
      generalize kq.toInt * rk.toInt = KR at *
      refine s_lload (pc' := 107) X_9.here hx (hb hby at_105) rfl rfl ?_
      refine s_lconst (pc' := 108) (z := (1 : Int64)) X_9.here hx (hb hby at_107) rfl rfl ?_
      refine s_lcmp (pc' := 109) X_9.here hx (hb hby at_108) rfl ?_
      by_cases hc109 : (q).toInt < (1 : Int)
      · skip
        refine s_ifYes (pc' := 150) X_9.here hx (hb hby at_109) (tltL (x := q) (y := (1 : Int64)) hc109).1 (by decide) (by decide) ?_
        refine s_iconst (pc' := 151) (z := (0 : Int32)) X_9.here hx (hb hby at_150) rfl rfl ?_
        exfalso
        first | omega | (have := hzq.1 (by omega); omega)
      · skip
        refine s_ifNo (pc' := 112) X_9.here hx (hb hby at_109) rfl (fltL (x := q) (y := (1 : Int64)) hc109).1 ?_
        refine s_lload (pc' := 114) X_9.here hx (hb hby at_112) rfl rfl ?_
        refine s_lload (pc' := 116) X_9.here hx (hb hby at_114) rfl rfl ?_
        refine s_lcmp (pc' := 117) X_9.here hx (hb hby at_116) rfl ?_
        by_cases hc117 : (kq).toInt < (q).toInt
        · skip
          refine s_ifYes (pc' := 150) X_9.here hx (hb hby at_117) (tltL (x := kq) (y := q) hc117).2.2.1 (by decide) (by decide) ?_
          refine s_iconst (pc' := 151) (z := (0 : Int32)) X_9.here hx (hb hby at_150) rfl rfl ?_
          exfalso
          first | omega | (have := hzq.1 (by omega); omega)
        · skip
          refine s_ifNo (pc' := 120) X_9.here hx (hb hby at_117) rfl (fltL (x := kq) (y := q) hc117).2.2.1 ?_
          refine s_lload (pc' := 122) X_9.here hx (hb hby at_120) rfl rfl ?_
          refine s_iload (pc' := 124) X_9.here hx (hb hby at_122) rfl rfl ?_
          refine Win.go (fun _ k => XS.i2l X_9.here hx rfl (hb hby at_124) rfl k) ?_
          show Win p.tables e below _ (T_9.setTop (mkF m 125 #[.val (.long q0), .second, .val (.int p1), .val (.int p2), .val (.int p3), .val (.int dg), .val (.int rk), .val (.long kq), .second, .val (.long q), .second, .val (.long pp), .second] [(.long (dg.toInt64)), (.long q)]))
          refine s_lmul (pc' := 126) X_9.here hx (hb hby at_125) rfl ?_
          refine s_lload (pc' := 128) X_9.here hx (hb hby at_126) rfl rfl ?_
          refine s_lcmp (pc' := 129) X_9.here hx (hb hby at_128) rfl ?_
          by_cases hc129 : ((q * (dg.toInt64))).toInt < (pp).toInt
          · skip
            refine s_ifYes (pc' := 150) X_9.here hx (hb hby at_129) (tltL (x := (q * (dg.toInt64))) (y := pp) hc129).1 (by decide) (by decide) ?_
            refine s_iconst (pc' := 151) (z := (0 : Int32)) X_9.here hx (hb hby at_150) rfl rfl ?_
            exfalso
            first | omega | (have := hzq.1 (by omega); omega)
          · skip
            refine s_ifNo (pc' := 132) X_9.here hx (hb hby at_129) rfl (fltL (x := (q * (dg.toInt64))) (y := pp) hc129).1 ?_
            refine s_lload (pc' := 134) X_9.here hx (hb hby at_132) rfl rfl ?_
            refine s_lconst (pc' := 135) (z := (1 : Int64)) X_9.here hx (hb hby at_134) rfl rfl ?_
            refine s_lsub (pc' := 136) X_9.here hx (hb hby at_135) rfl ?_
            refine s_iload (pc' := 138) X_9.here hx (hb hby at_136) rfl rfl ?_
            refine Win.go (fun _ k => XS.i2l X_9.here hx rfl (hb hby at_138) rfl k) ?_
            show Win p.tables e below _ (T_9.setTop (mkF m 139 #[.val (.long q0), .second, .val (.int p1), .val (.int p2), .val (.int p3), .val (.int dg), .val (.int rk), .val (.long kq), .second, .val (.long q), .second, .val (.long pp), .second] [(.long (dg.toInt64)), (.long (q - (1 : Int64)))]))
            refine s_lmul (pc' := 140) X_9.here hx (hb hby at_139) rfl ?_
            refine s_lload (pc' := 142) X_9.here hx (hb hby at_140) rfl rfl ?_
            refine s_lcmp (pc' := 143) X_9.here hx (hb hby at_142) rfl ?_
            by_cases hc143 : (((q - (1 : Int64)) * (dg.toInt64))).toInt < (pp).toInt
            · skip
              refine s_ifNo (pc' := 146) X_9.here hx (hb hby at_143) rfl (tltL (x := ((q - (1 : Int64)) * (dg.toInt64))) (y := pp) hc143).2.1 ?_
              refine s_iconst (pc' := 147) (z := (1 : Int32)) X_9.here hx (hb hby at_146) rfl rfl ?_
              refine s_goto (pc' := 151) X_9.here hx (hb hby at_147) (by decide) (by decide) ?_
              refine winN X_9 hx hlk e_9 (t := .boolean) Bd.returns (by simp) (hb hby at_151) (by decide) (by decide) (z' := 1) rfl ⟨Nf, rfl⟩
            · skip
              refine s_ifYes (pc' := 150) X_9.here hx (hb hby at_143) (fltL (x := ((q - (1 : Int64)) * (dg.toInt64))) (y := pp) hc143).2.1 (by decide) (by decide) ?_
              refine s_iconst (pc' := 151) (z := (0 : Int32)) X_9.here hx (hb hby at_150) rfl rfl ?_
              exfalso
              first | omega | (have := hzq.1 (by omega); omega)
    · skip
      refine s_ifNo (pc' := 82) X_9.here hx (hb hby at_79) rfl (fltL (x := kq) (y := (dg.toInt64)) hc79).1 ?_
      refine s_lload (pc' := 84) X_9.here hx (hb hby at_82) rfl rfl ?_
      refine s_iload (pc' := 86) X_9.here hx (hb hby at_84) rfl rfl ?_
      refine Win.go (fun _ k => XS.i2l X_9.here hx rfl (hb hby at_86) rfl k) ?_
      show Win p.tables e below _ (T_9.setTop (mkF m 87 #[.val (.long q0), .second, .val (.int p1), .val (.int p2), .val (.int p3), .val (.int dg), .val (.int rk), .val (.long kq), .second, .val (.long q), .second, .unset, .unset] [(.long (rk.toInt64)), (.long q)]))
      refine s_lcmp (pc' := 88) X_9.here hx (hb hby at_87) rfl ?_
      by_cases hc88 : (q).toInt = ((rk.toInt64)).toInt
      · skip
        refine s_ifNo (pc' := 91) X_9.here hx (hb hby at_88) rfl (teqL (x := q) (y := (rk.toInt64)) hc88).2 ?_
        refine s_iconst (pc' := 92) (z := (1 : Int32)) X_9.here hx (hb hby at_91) rfl rfl ?_
        refine s_goto (pc' := 96) X_9.here hx (hb hby at_92) (by decide) (by decide) ?_
        refine winN X_9 hx hlk e_9 (t := .boolean) Bd.returns (by simp) (hb hby at_96) (by decide) (by decide) (z' := 1) rfl ⟨Nf, rfl⟩
      · skip
        refine s_ifYes (pc' := 95) X_9.here hx (hb hby at_88) (feqL (x := q) (y := (rk.toInt64)) hc88).2 (by decide) (by decide) ?_
        refine s_iconst (pc' := 96) (z := (0 : Int32)) X_9.here hx (hb hby at_95) rfl rfl ?_
        exfalso
        first | omega | (have := hzq.1 (by omega); omega)
  · skip
    refine s_ifNo (pc' := 28) X_5.here hx (hb hby at_25) rfl ((if0 _ _).trans (feqI (x := (p3 &&& (1 : Int32))) (y := (0 : Int32)) hc25).1) ?_
    refine s_lconst (pc' := 29) (z := (1 : Int64)) X_5.here hx (hb hby at_28) rfl rfl ?_
    refine s_lloadN (pc' := 30) X_5.here hx (hb hby at_29) rfl rfl ?_
    refine Win.go (fun _ k => X_5.ldc2Long hx hown (mvT hZ (hw _ (List.mem_of_getElem? (i := 5) rfl))) (g := (mkF m 30 #[.val (.long q0), .second, .val (.int p1), .val (.int p2), .val (.int p3), .val (.int dg), .val (.int rk), .unset, .unset, .unset, .unset, .unset, .unset] [(.long q0), (.long (1 : Int64))])) rfl (hb hby at_30) _ k) ?_
    show Win p.tables e below _ (T_5.setTop (mkF m 33 #[.val (.long q0), .second, .val (.int p1), .val (.int p2), .val (.int p3), .val (.int dg), .val (.int rk), .unset, .unset, .unset, .unset, .unset, .unset] [(.long (9223372036854775807 : Int64)), (.long q0), (.long (1 : Int64))]))
    refine s_land (pc' := 34) X_5.here hx (hb hby at_33) rfl ?_
    refine s_iload (pc' := 36) X_5.here hx (hb hby at_34) rfl rfl ?_
    refine Win.go (fun _ k => XS.i2l X_5.here hx rfl (hb hby at_36) rfl k) ?_
    show Win p.tables e below _ (T_5.setTop (mkF m 37 #[.val (.long q0), .second, .val (.int p1), .val (.int p2), .val (.int p3), .val (.int dg), .val (.int rk), .unset, .unset, .unset, .unset, .unset, .unset] [(.long (dg.toInt64)), (.long (q0 &&& (9223372036854775807 : Int64))), (.long (1 : Int64))]))
    have hnz37 := own_nzL (x := dg) (by omega)
    refine Win.go (fun _ k => lremM X_5 hx rfl (hb hby at_37) rfl hnz37 k) ?_
    show Win p.tables e below _ (T_5.setTop (mkF m 38 #[.val (.long q0), .second, .val (.int p1), .val (.int p2), .val (.int p3), .val (.int dg), .val (.int rk), .unset, .unset, .unset, .unset, .unset, .unset] [(.long ((q0 &&& (9223372036854775807 : Int64)) % (dg.toInt64))), (.long (1 : Int64))]))
    refine s_ladd (pc' := 39) X_5.here hx (hb hby at_38) rfl ?_
    refine s_lstore (pc' := 41) (l' := #[.val (.long q0), .second, .val (.int p1), .val (.int p2), .val (.int p3), .val (.int dg), .val (.int rk), .val (.long ((1 : Int64) + ((q0 &&& (9223372036854775807 : Int64)) % (dg.toInt64)))), .second, .unset, .unset, .unset, .unset]) X_5.here hx (hb hby at_39) rfl rfl ?_
    generalize hkq : ((1 : Int64) + ((q0 &&& (9223372036854775807 : Int64)) % (dg.toInt64))) = kq
    show Win p.tables e below _ (T_5.setTop (mkF m 41 #[.val (.long q0), .second, .val (.int p1), .val (.int p2), .val (.int p3), .val (.int dg), .val (.int rk), .val (.long kq), .second, .unset, .unset, .unset, .unset] []))
    have bkq : 1 ≤ kq.toInt := by
      have h1 := own_m63 q0
      have h2 := c_i2l dg
      have h3 := own_lrem (x := (q0 &&& (9223372036854775807 : Int64))) (y := dg.toInt64) (by omega) (by omega)
      have h4 := c_ladd 1 ((q0 &&& (9223372036854775807 : Int64)) % dg.toInt64)
      rw [hkq] at h4
      have h5 := rng64 kq
      have h6 : (1 : Int64).toInt = 1 := rfl
      omega
    refine s_goto (pc' := 55) X_5.here hx (hb hby at_41) (by decide) (by decide) ?_
    obtain ⟨T_10, h_10, X_10, e_10, Ex_10, A_10, D_10, -, st_10⟩ := newO X_5 hx hZ hown (hw _ (List.mem_of_getElem? (i := 9) rfl)) (hw _ (List.mem_of_getElem? (i := 10) rfl)) (hw _ (List.mem_of_getElem? (i := 11) rfl)) e_5 (g := (mkF m 55 #[.val (.long q0), .second, .val (.int p1), .val (.int p2), .val (.int p3), .val (.int dg), .val (.int rk), .val (.long kq), .second, .unset, .unset, .unset, .unset] [])) rfl (hb hby at_55) (by decide) (by decide)
    obtain ⟨b_10, g_10⟩ : ∃ z, z = h0.size := ⟨_, rfl⟩
    have g_b_10 : n0 ≤ b_10 := Nat.le_trans Zs (Nat.le_of_eq g_10.symm)
    rw [← g_10] at A_10 D_10 st_10
    replace Zs := Nat.le_trans Zs Ex_10.1
    have E_b_10 := A_10
    have lt_b_10 := E_b_10.lt
    have F_k_b_10 : Fld Z h_10 b_10 "com/example/nearstable/nearstable/asm/Quantiles" "k" "J" (.long (0 : Int64)) := D_10 (Or.inr (hw _ (List.mem_of_getElem? (i := 19) rfl))) (ty := .long) (by decide)
    refine Win.go st_10 ?_
    show Win p.tables e below _ (T_10.setTop (mkF m 58 #[.val (.long q0), .second, .val (.int p1), .val (.int p2), .val (.int p3), .val (.int dg), .val (.int rk), .val (.long kq), .second, .unset, .unset, .unset, .unset] [(.ref b_10)]))
    refine s_dup (pc' := 59) X_10.here hx (hb hby at_58) rfl rfl ?_
    refine s_lload (pc' := 61) X_10.here hx (hb hby at_59) rfl rfl ?_
    obtain ⟨_, _, ⟨T_11, L_11, k_11, n_11⟩, -, X_11, ⟨Lc_11, hQ_11, l_11, y_11, z_11⟩, st_11⟩ := X_10.specialBack hx (y := (⟨"com/example/nearstable/nearstable/asm/Quantiles", "<init>", "(J)V"⟩ : MethodName)) rfl hown (mvT hZ (hw _ (List.mem_of_getElem? (i := 12) rfl))) (mvT hZ (hw _ (List.mem_of_getElem? (i := 13) rfl))) (mvT hZ (hw _ (List.mem_of_getElem? (i := 14) rfl))) (by decide) (backOf (W := 1) (rm3 l Z a0 hw [] b_10 kq h_10 n0 Zs E_b_10 F_k_b_10 g_b_10) hZ (hw _ (List.mem_of_getElem? (i := 14) rfl)) (hw _ (List.mem_of_getElem? (i := 11) rfl)) (by decide) (by decide)) (g := (mkF m 61 #[.val (.long q0), .second, .val (.int p1), .val (.int p2), .val (.int p3), .val (.int dg), .val (.int rk), .val (.long kq), .second, .unset, .unset, .unset, .unset] [(.long kq), (.ref b_10), (.ref b_10)])) rfl (by rw [hml]; rfl) (Steps.refl _) (a := b_10) (argsL := [(.long kq)]) (rest := [(.ref b_10)]) (lenOf pd_2 rfl) rfl (by show 2 * 0 + _ ≤ _; exact Nat.le_of_eq rfl) (hb hby at_61) (fun _ _ => ⟨rfl, e_10, (by decide : 1 + 0 ≤ _), (by decide : 1 + 0 ≤ _)⟩)
    dsimp only [Pt.U, Pt.locs, Pt.cells, Pt.slots] at X_11 l_11 y_11 z_11 st_11 hQ_11
    subst l_11 y_11 z_11
    obtain ⟨h_11, e_11⟩ : ∃ z, T_11.heap = z := ⟨_, rfl⟩
    rw [e_11] at hQ_11
    obtain ⟨Nq_11, K_11, n_11_F_k_b_10, rfl⟩ := hQ_11
    replace Nf := Fr.app Nf Nq_11
    replace E_b_10 := E_b_10.keep K_11
    clear F_k_b_10
    replace lt_b_10 := Nat.lt_of_lt_of_le lt_b_10 K_11.1
    replace Zs := Nat.le_trans Zs K_11.1
    have F_k_b_10 := n_11_F_k_b_10
    refine Win.come st_11 ?_
    show Win p.tables e below _ (T_11.setTop (mkF m 64 #[.val (.long q0), .second, .val (.int p1), .val (.int p2), .val (.int p3), .val (.int dg), .val (.int rk), .val (.long kq), .second, .unset, .unset, .unset, .unset] [(.ref b_10)]))
    refine s_iload (pc' := 66) X_11.here hx (hb hby at_64) rfl rfl ?_
    refine s_iload (pc' := 68) X_11.here hx (hb hby at_66) rfl rfl ?_
    obtain ⟨cq_12, kq_12, q_12a, q_12b, q_12c⟩ := isOf hZ e_11 E_b_10
    obtain ⟨_, _, ⟨T_12, L_12, k_12, n_12⟩, -, X_12, ⟨Lc_12, hQ_12, l_12, y_12, z_12⟩, st_12⟩ := X_11.virtualBack hx (y := (⟨"com/example/nearstable/nearstable/asm/Quantiles", "of", "(II)J"⟩ : MethodName)) (z := (⟨"com/example/nearstable/nearstable/asm/Quantiles", "of", "(II)J"⟩ : MethodName)) hown (mvT hZ (hw _ (List.mem_of_getElem? (i := 20) rfl))) (mvT hZ (hw _ (List.mem_of_getElem? (i := 21) rfl))) (notFace_of_selects (args := #[]) (mvT hZ (hw _ (List.mem_of_getElem? (i := 23) rfl)))) (mvT hZ (hw _ (List.mem_of_getElem? (i := 23) rfl))) (mvT hZ (hw _ (List.mem_of_getElem? (i := 22) rfl))) (by decide) (backOf (W := 0) (rm5 l Z a0 hw [] b_10 rk dg kq h_11 n0 Zs F_k_b_10 (by omega)) hZ (hw _ (List.mem_of_getElem? (i := 24) rfl)) (hw _ (List.mem_of_getElem? (i := 11) rfl)) (by decide) (by decide)) q_12a q_12c (g := (mkF m 68 #[.val (.long q0), .second, .val (.int p1), .val (.int p2), .val (.int p3), .val (.int dg), .val (.int rk), .val (.long kq), .second, .unset, .unset, .unset, .unset] [(.int dg), (.int rk), (.ref b_10)])) rfl (by rw [hml]; rfl) (Steps.refl _) (argsL := [(.int rk), (.int dg)]) (rest := []) (lenOf pd_3 rfl) rfl (by show 2 * 0 + _ ≤ _; exact Nat.le_of_eq rfl) (hb hby at_68) (fun _ _ => ⟨rfl, e_11, (by decide : 1 + 0 ≤ _), (by decide : 1 + 0 ≤ _)⟩)
    dsimp only [Pt.U, Pt.locs, Pt.cells, Pt.slots] at X_12 l_12 y_12 z_12 st_12 hQ_12
    subst l_12 y_12 z_12
    obtain ⟨Nq_12, e_12, q, rfl, hq⟩ := hQ_12
    replace Nf := Fr.app Nf Nq_12
    refine Win.come st_12 ?_
    show Win p.tables e below _ (T_12.setTop (mkF m 71 #[.val (.long q0), .second, .val (.int p1), .val (.int p2), .val (.int p3), .val (.int dg), .val (.int rk), .val (.long kq), .second, .unset, .unset, .unset, .unset] [(.long q)]))
    have hzq := hq
    have n1' := c_i2l rk
    have n2' := c_i2l dg
    refine s_lstore (pc' := 73) (l' := #[.val (.long q0), .second, .val (.int p1), .val (.int p2), .val (.int p3), .val (.int dg), .val (.int rk), .val (.long kq), .second, .val (.long q), .second, .unset, .unset]) X_12.here hx (hb hby at_71) rfl rfl ?_
    refine s_lload (pc' := 75) X_12.here hx (hb hby at_73) rfl rfl ?_
    refine s_iload (pc' := 77) X_12.here hx (hb hby at_75) rfl rfl ?_
    refine Win.go (fun _ k => XS.i2l X_12.here hx rfl (hb hby at_77) rfl k) ?_
    show Win p.tables e below _ (T_12.setTop (mkF m 78 #[.val (.long q0), .second, .val (.int p1), .val (.int p2), .val (.int p3), .val (.int dg), .val (.int rk), .val (.long kq), .second, .val (.long q), .second, .unset, .unset] [(.long (dg.toInt64)), (.long kq)]))
    refine s_lcmp (pc' := 79) X_12.here hx (hb hby at_78) rfl ?_
    by_cases hc79 : (kq).toInt < ((dg.toInt64)).toInt
    · skip
      refine s_ifYes (pc' := 97) X_12.here hx (hb hby at_79) (tltL (x := kq) (y := (dg.toInt64)) hc79).1 (by decide) (by decide) ?_
      refine s_lload (pc' := 99) X_12.here hx (hb hby at_97) rfl rfl ?_
      refine s_iload (pc' := 101) X_12.here hx (hb hby at_99) rfl rfl ?_
      refine Win.go (fun _ k => XS.i2l X_12.here hx rfl (hb hby at_101) rfl k) ?_
      show Win p.tables e below _ (T_12.setTop (mkF m 102 #[.val (.long q0), .second, .val (.int p1), .val (.int p2), .val (.int p3), .val (.int dg), .val (.int rk), .val (.long kq), .second, .val (.long q), .second, .unset, .unset] [(.long (rk.toInt64)), (.long kq)]))
      refine s_lmul (pc' := 103) X_12.here hx (hb hby at_102) rfl ?_
      refine s_lstore (pc' := 105) (l' := #[.val (.long q0), .second, .val (.int p1), .val (.int p2), .val (.int p3), .val (.int dg), .val (.int rk), .val (.long kq), .second, .val (.long q), .second, .val (.long (kq * (rk.toInt64))), .second]) X_12.here hx (hb hby at_103) rfl rfl ?_
      generalize hpp : (kq * (rk.toInt64)) = pp
      show Win p.tables e below _ (T_12.setTop (mkF m 105 #[.val (.long q0), .second, .val (.int p1), .val (.int p2), .val (.int p3), .val (.int dg), .val (.int rk), .val (.long kq), .second, .val (.long q), .second, .val (.long pp), .second] []))
      have Q := own_q kq.toInt rk.toInt dg.toInt (by omega) (by omega) (by omega) (by omega)
      have zq := hzq.2 (by omega)
      have qb := own_prod (x := kq.toInt) (y := rk.toInt) (by omega) (by omega) (by omega) (by omega)
      rw [← zq] at Q
      have n1 := c_i2l rk
      have n2 := c_i2l dg
      have n3 := own_lm (x := kq) (y := rk.toInt64) (by omega) (by omega) (by omega) (by omega)
      rw [n1, hpp] at n3
      have n4 := c_lmul q dg.toInt64
      have n5 := c_lmul (q - 1) dg.toInt64
      have n6 := c_lsub q 1
      have n7 : (1 : Int64).toInt = 1 := rfl
      have n8 := rng64 (q * dg.toInt64)
      have n9 := rng64 ((q - 1) * dg.toInt64)
      have n10 := rng64 (q - 1)
      have n11 : (q - 1).toInt = q.toInt - 1 := by omega
      rw [n2] at n4 n5
      rw [n11] at n5
      have n12 : (q.toInt - 1) * dg.toInt = q.toInt * dg.toInt - dg.toInt := by rw [Int.sub_mul, Int.one_mul]
      rw [n12] at n5 Q
      generalize q.toInt * dg.toInt = QD at *
      generalize kq.toInt * rk.toInt = KR at *
      refine s_lload (pc' := 107) X_12.here hx (hb hby at_105) rfl rfl ?_
      refine s_lconst (pc' := 108) (z := (1 : Int64)) X_12.here hx (hb hby at_107) rfl rfl ?_
      refine s_lcmp (pc' := 109) X_12.here hx (hb hby at_108) rfl ?_
      by_cases hc109 : (q).toInt < (1 : Int)
      · skip
        refine s_ifYes (pc' := 150) X_12.here hx (hb hby at_109) (tltL (x := q) (y := (1 : Int64)) hc109).1 (by decide) (by decide) ?_
        refine s_iconst (pc' := 151) (z := (0 : Int32)) X_12.here hx (hb hby at_150) rfl rfl ?_
        exfalso
        first | omega | (have := hzq.1 (by omega); omega)
      · skip
        refine s_ifNo (pc' := 112) X_12.here hx (hb hby at_109) rfl (fltL (x := q) (y := (1 : Int64)) hc109).1 ?_
        refine s_lload (pc' := 114) X_12.here hx (hb hby at_112) rfl rfl ?_
        refine s_lload (pc' := 116) X_12.here hx (hb hby at_114) rfl rfl ?_
        refine s_lcmp (pc' := 117) X_12.here hx (hb hby at_116) rfl ?_
        by_cases hc117 : (kq).toInt < (q).toInt
        · skip
          refine s_ifYes (pc' := 150) X_12.here hx (hb hby at_117) (tltL (x := kq) (y := q) hc117).2.2.1 (by decide) (by decide) ?_
          refine s_iconst (pc' := 151) (z := (0 : Int32)) X_12.here hx (hb hby at_150) rfl rfl ?_
          exfalso
          first | omega | (have := hzq.1 (by omega); omega)
        · skip
          refine s_ifNo (pc' := 120) X_12.here hx (hb hby at_117) rfl (fltL (x := kq) (y := q) hc117).2.2.1 ?_
          refine s_lload (pc' := 122) X_12.here hx (hb hby at_120) rfl rfl ?_
          refine s_iload (pc' := 124) X_12.here hx (hb hby at_122) rfl rfl ?_
          refine Win.go (fun _ k => XS.i2l X_12.here hx rfl (hb hby at_124) rfl k) ?_
          show Win p.tables e below _ (T_12.setTop (mkF m 125 #[.val (.long q0), .second, .val (.int p1), .val (.int p2), .val (.int p3), .val (.int dg), .val (.int rk), .val (.long kq), .second, .val (.long q), .second, .val (.long pp), .second] [(.long (dg.toInt64)), (.long q)]))
          refine s_lmul (pc' := 126) X_12.here hx (hb hby at_125) rfl ?_
          refine s_lload (pc' := 128) X_12.here hx (hb hby at_126) rfl rfl ?_
          refine s_lcmp (pc' := 129) X_12.here hx (hb hby at_128) rfl ?_
          by_cases hc129 : ((q * (dg.toInt64))).toInt < (pp).toInt
          · skip
            refine s_ifYes (pc' := 150) X_12.here hx (hb hby at_129) (tltL (x := (q * (dg.toInt64))) (y := pp) hc129).1 (by decide) (by decide) ?_
            refine s_iconst (pc' := 151) (z := (0 : Int32)) X_12.here hx (hb hby at_150) rfl rfl ?_
            exfalso
            first | omega | (have := hzq.1 (by omega); omega)
          · skip
            refine s_ifNo (pc' := 132) X_12.here hx (hb hby at_129) rfl (fltL (x := (q * (dg.toInt64))) (y := pp) hc129).1 ?_
            refine s_lload (pc' := 134) X_12.here hx (hb hby at_132) rfl rfl ?_
            refine s_lconst (pc' := 135) (z := (1 : Int64)) X_12.here hx (hb hby at_134) rfl rfl ?_
            refine s_lsub (pc' := 136) X_12.here hx (hb hby at_135) rfl ?_
            refine s_iload (pc' := 138) X_12.here hx (hb hby at_136) rfl rfl ?_
            refine Win.go (fun _ k => XS.i2l X_12.here hx rfl (hb hby at_138) rfl k) ?_
            show Win p.tables e below _ (T_12.setTop (mkF m 139 #[.val (.long q0), .second, .val (.int p1), .val (.int p2), .val (.int p3), .val (.int dg), .val (.int rk), .val (.long kq), .second, .val (.long q), .second, .val (.long pp), .second] [(.long (dg.toInt64)), (.long (q - (1 : Int64)))]))
            refine s_lmul (pc' := 140) X_12.here hx (hb hby at_139) rfl ?_
            refine s_lload (pc' := 142) X_12.here hx (hb hby at_140) rfl rfl ?_
            refine s_lcmp (pc' := 143) X_12.here hx (hb hby at_142) rfl ?_
            by_cases hc143 : (((q - (1 : Int64)) * (dg.toInt64))).toInt < (pp).toInt
            · skip
              refine s_ifNo (pc' := 146) X_12.here hx (hb hby at_143) rfl (tltL (x := ((q - (1 : Int64)) * (dg.toInt64))) (y := pp) hc143).2.1 ?_
              refine s_iconst (pc' := 147) (z := (1 : Int32)) X_12.here hx (hb hby at_146) rfl rfl ?_
              refine s_goto (pc' := 151) X_12.here hx (hb hby at_147) (by decide) (by decide) ?_
              refine winN X_12 hx hlk e_12 (t := .boolean) Bd.returns (by simp) (hb hby at_151) (by decide) (by decide) (z' := 1) rfl ⟨Nf, rfl⟩
            · skip
              refine s_ifYes (pc' := 150) X_12.here hx (hb hby at_143) (fltL (x := ((q - (1 : Int64)) * (dg.toInt64))) (y := pp) hc143).2.1 (by decide) (by decide) ?_
              refine s_iconst (pc' := 151) (z := (0 : Int32)) X_12.here hx (hb hby at_150) rfl rfl ?_
              exfalso
              first | omega | (have := hzq.1 (by omega); omega)
    · skip
      refine s_ifNo (pc' := 82) X_12.here hx (hb hby at_79) rfl (fltL (x := kq) (y := (dg.toInt64)) hc79).1 ?_
      refine s_lload (pc' := 84) X_12.here hx (hb hby at_82) rfl rfl ?_
      refine s_iload (pc' := 86) X_12.here hx (hb hby at_84) rfl rfl ?_
      refine Win.go (fun _ k => XS.i2l X_12.here hx rfl (hb hby at_86) rfl k) ?_
      show Win p.tables e below _ (T_12.setTop (mkF m 87 #[.val (.long q0), .second, .val (.int p1), .val (.int p2), .val (.int p3), .val (.int dg), .val (.int rk), .val (.long kq), .second, .val (.long q), .second, .unset, .unset] [(.long (rk.toInt64)), (.long q)]))
      refine s_lcmp (pc' := 88) X_12.here hx (hb hby at_87) rfl ?_
      by_cases hc88 : (q).toInt = ((rk.toInt64)).toInt
      · skip
        refine s_ifNo (pc' := 91) X_12.here hx (hb hby at_88) rfl (teqL (x := q) (y := (rk.toInt64)) hc88).2 ?_
        refine s_iconst (pc' := 92) (z := (1 : Int32)) X_12.here hx (hb hby at_91) rfl rfl ?_
        refine s_goto (pc' := 96) X_12.here hx (hb hby at_92) (by decide) (by decide) ?_
        refine winN X_12 hx hlk e_12 (t := .boolean) Bd.returns (by simp) (hb hby at_96) (by decide) (by decide) (z' := 1) rfl ⟨Nf, rfl⟩
      · skip
        refine s_ifYes (pc' := 95) X_12.here hx (hb hby at_88) (feqL (x := q) (y := (rk.toInt64)) hc88).2 (by decide) (by decide) ?_
        refine s_iconst (pc' := 96) (z := (0 : Int32)) X_12.here hx (hb hby at_95) rfl rfl ?_
        exfalso
        first | omega | (have := hzq.1 (by omega); omega)
set_option maxRecDepth 65536 in
set_option maxHeartbeats 40000000 in
theorem comes_1 {Post : Tables → Env → Array Value → State → Outcome → State → Prop} (hpost : ∀ tb e args s v u, (limb_1_1.after args s (.returned v) u = true ∧ limb_1_2.after args s (.returned v) u = true ∧ True) → FrameEnd s (.returned v) u (Jvm.fieldLocs frame_1_writes args s ++ Jvm.arrayLocs frame_1_arrays args s ++ Jvm.staticLocs frame_1_statics s) 16 128 → Post tb e args s (.returned v) u) :
    ArmFor flags0 classFile x code maxLocals ret World_1 tables_1 room_1 Calls_1 rest_1 Pre_1 Post := by
  intro l hfl _ _ p e ha hc hk s m args below hf hA hF happ hP
  obtain ⟨hcalls, hrest, hpre⟩ := hP
  obtain ⟨-, -, -, hnamed, -, -, -, hat⟩ := (Spec.applies_iff hf).mp happ
  obtain ⟨hg, hn⟩ := and_e (Cond.before_iff.mp (show (Jvm.Cond.and given_1 narrow_1).before args s = true from hpre))
  obtain ⟨g1, g2⟩ := and_e hg
  obtain ⟨g3, g4⟩ := and_e g2
  obtain ⟨g5, g6⟩ := and_e g4
  obtain ⟨g7, g8⟩ := and_e g6
  obtain ⟨w0, w1, w2, w3, rfl⟩ : ∃ w0 w1 w2 w3 : Value, args = #[w0, w1, w2, w3] := by
    have hs : args.size = 4 := by simpa [Cond.value, given_1] using g1
    obtain ⟨L⟩ := args
    match L, hs with
    | [w0, w1, w2, w3], _ => exact ⟨w0, w1, w2, w3, rfl⟩
  have hw := fun d (hd : d ∈ tables_1) => atoms_spec (ws := Jvm.Cond.code x code maxLocals ret :: tables_1) hat d (List.mem_cons_of_mem _ hd)
  have hfit : Fit s := fun {y c} hc i hi => by
    obtain ⟨ha, rfl⟩ := Array.getElem?_eq_some_iff.mp hc
    have q := List.all_eq_true.mp ((Array.all_eq_true_iff_forall_mem.mp hF) _ (Array.getElem_mem ha)) i (List.mem_range.mpr hi)
    simpa [Array.getElem?_eq_getElem hi] using q
  obtain ⟨i0, ei0⟩ := isL_v g3
  obtain rfl : w0 = (.long i0) := Option.some.inj ei0
  obtain ⟨i1, ei1⟩ := is_v g5
  obtain rfl : w1 = (.int i1) := Option.some.inj ei1
  obtain ⟨i2, ei2⟩ := is_v g7
  obtain rfl : w2 = (.int i2) := Option.some.inj ei2
  obtain ⟨i3, ei3⟩ := is_v g8
  obtain rfl : w3 = (.int i3) := Option.some.inj ei3
  obtain ⟨n, o, h1, h2, h3, _, L, rfl, ⟨N, rfl⟩, hq⟩ := rm0 l s _ hw tables_1 i0 i1 i2 i3 s.heap s.heap.size (Nat.le_refl _) p e ha hc hk s m _ below hf ((Spec.applies_iff_loose hf).mp happ).1 ⟨rfl, State.Warmed39.refl s, rfl⟩ trivial
  refine ⟨n, _, h1, h2, h3, hpost _ _ _ _ _ _ ⟨Cond.after_iff.mpr rfl, Cond.after_iff.mpr (eq_i res_at (Term.int_eval (1)) rfl), trivial⟩ ⟨hq.1, hq.2.1, (hq.2.2.sift fun y hy => Or.inr (N y hy)).mono (by decide) (by decide)⟩⟩
theorem main_1_1 : Claimed_1_1 := comes_1 fun _ _ _ _ _ _ h hF => ⟨h.1, hF⟩
theorem main_1_2 : Claimed_1_2 := comes_1 fun _ _ _ _ _ _ h hF => ⟨h.2.1, hF⟩
end Jvm.Pilot.@@N@@
namespace Jvm.Pilot.@@N@@
open Jvm Jvm.ClassFile Sem Op Lib Jvm.Free Jvm.Stand Jvm.Pilot.@@N@@.Jvm.D
/-! MADE BY PROGRAM (witnessworld.py) out of the Statement's table words and the real class files: 10 classes; the members and pool entries that the words name. The judged class is class 1, her method 1. -/
namespace start1
open Jvm.ClassFile
def u (s : String) : CpInfo := .utf8 (stringToUtf16 s)
/-- a pool by its gaps: so many unusable entries, then the entry; so many at the end -/
def gap : Nat → List CpInfo → List CpInfo
  | 0, r => r
  | n + 1, r => .unusable :: gap n r
def poolList (es : List (Nat × CpInfo)) (last : Nat) : List CpInfo := es.foldr (fun e r => gap e.1 (e.2 :: r)) (gap last [])
def pool (es : List (Nat × CpInfo)) (last : Nat) : Array CpInfo := ⟨poolList es last⟩
def fileOf (pool : Array CpInfo) (this : Nat) (attrs : Array Attribute := #[]) (ms : Array MethodInfo := #[]) (fl : Nat := 33) (sup : Nat := 0) (ifs : Array Nat := #[]) (fds : Array FieldInfo := #[]) : ClassFile where
  minorVersion := 0
  majorVersion := 65
  constantPool := pool
  accessFlags := fl
  thisClass := this
  superClass := sup
  interfaces := ifs
  fields := fds
  methods := ms
  attributes := attrs
def plain (name : String) (sup : Option ClassId) : Class where
  name := name
  kind := .ordinary
  loader := none
  accessFlags := 33
  super := sup
  interfaces := #[]
  cf := none
  fields := #[]
  methods := #[]
  instanceTypes := #[]
  staticTypes := #[]
  resolved := #[]
  callSites := []
  init := .initialized
  statics := none
  mirror := none

def pool0 : Array CpInfo := pool [(5, u "<init>"), (0, u "()V"), (1, .class_ 10), (1, u "java/lang/Object")] 113

def k0c0 : Code := { maxStack := 0, maxLocals := 1, code := object_method_1_code, exceptionTable := #[], attributes := #[] }
def k0m0 : Method := { name := "<init>", desc := "()V", sig := { parameters := [], returnType := none }, accessFlags := 1, code := some k0c0 }
/-- java/lang/Object -/
def k0 : Class := { plain "java/lang/Object" none with
  accessFlags := 33
  interfaces := #[]
  cf := some (fileOf pool0 8 #[] #[{ accessFlags := 1, nameIndex := 5, descriptorIndex := 6, attributes := #[] }] 33 0 #[] #[])
  fields := #[]
  methods := #[k0m0]
  instanceTypes := #[]
  staticTypes := #[]
  resolved := Array.replicate 124 none
  statics := none }

def pool1 : Array CpInfo := pool [(2, .class_ 4), (1, u "java/lang/Object"), (0, u "<init>"), (0, u "()V"), (0, .integer 2147483647), (0, .methodref 9 10), (0, .class_ 11), (0, .nameAndType 12 13), (0, u "java/lang/Math"), (0, u "max"), (0, u "(II)I"), (2, .long 9223372036854775807), (1, .methodref 9 19), (0, .nameAndType 12 20), (0, u "(JJ)J"), (0, .class_ 22), (0, u "com/example/nearstable/nearstable/asm/Quantiles"), (0, .methodref 21 24), (0, .nameAndType 5 25), (0, u "(J)V"), (0, .methodref 21 27), (0, .nameAndType 28 29), (0, u "of"), (0, u "(II)J"), (0, .class_ 31), (0, u "com/example/nearstable/nearstable/asm/QuantilesOfPinLaw"), (2, u "law"), (0, u "(JIII)Z")] 3

def k1m0 : Method := { name := "<init>", desc := "()V", sig := { parameters := [], returnType := none }, accessFlags := 1, code := none }
def k1c1 : Code := { maxStack := 6, maxLocals := 13, code := code, exceptionTable := #[], attributes := #[] }
def k1m1 : Method := { name := "law", desc := "(JIII)Z", sig := { parameters := [.long, .int, .int, .int], returnType := some .boolean }, accessFlags := 9, code := some k1c1 }
/-- com/example/nearstable/nearstable/asm/QuantilesOfPinLaw -/
def k1 : Class := { plain "com/example/nearstable/nearstable/asm/QuantilesOfPinLaw" (some 0) with
  accessFlags := 49
  interfaces := #[]
  cf := some (fileOf pool1 30 #[] #[{ accessFlags := 1, nameIndex := 5, descriptorIndex := 6, attributes := #[] }, { accessFlags := 9, nameIndex := 34, descriptorIndex := 35, attributes := #[] }] 49 2 #[] #[])
  fields := #[]
  methods := #[k1m0, k1m1]
  instanceTypes := #[]
  staticTypes := #[]
  resolved := Array.replicate 39 none
  statics := none }

def pool2 : Array CpInfo := pool [(1, .class_ 2), (0, u "java/lang/Math"), (1, .class_ 6), (1, u "java/lang/Object"), (0, u "<init>"), (0, u "()V"), (89, .class_ 100), (1, u "java/lang/Math$RandomNumberGeneratorHolder"), (20, u "(JJ)J"), (50, u "negativeZeroFloatBits"), (0, u "J"), (2, u "negativeZeroDoubleBits"), (21, u "max"), (46, u "$assertionsDisabled"), (0, u "Z"), (88, u "(II)I"), (2, u "twoToTheDoubleScaleDown"), (0, u "D"), (4, u "twoToTheDoubleScaleUp"), (9, u "E"), (3, u "PI"), (2, u "TAU"), (2, u "DEGREES_TO_RADIANS"), (0, u "RADIANS_TO_DEGREES")] 94

def k2m0 : Method := { name := "<init>", desc := "()V", sig := { parameters := [], returnType := none }, accessFlags := 2, code := none }
def k2c1 : Code := { maxStack := 2, maxLocals := 2, code := jdk_29_method_65_code, exceptionTable := #[], attributes := #[] }
def k2m1 : Method := { name := "max", desc := "(II)I", sig := { parameters := [.int, .int], returnType := some .int }, accessFlags := 9, code := some k2c1 }
def k2c2 : Code := { maxStack := 4, maxLocals := 4, code := jdk_29_method_66_code, exceptionTable := #[], attributes := #[] }
def k2m2 : Method := { name := "max", desc := "(JJ)J", sig := { parameters := [.long, .long], returnType := some .long }, accessFlags := 9, code := some k2c2 }
/-- java/lang/Math -/
def k2 : Class := { plain "java/lang/Math" (some 0) with
  accessFlags := 49
  interfaces := #[]
  cf := some (fileOf pool2 1 #[.nestMembers #[98]] #[{ accessFlags := 2, nameIndex := 7, descriptorIndex := 8, attributes := #[] }, { accessFlags := 9, nameIndex := 198, descriptorIndex := 335, attributes := #[] }, { accessFlags := 9, nameIndex := 198, descriptorIndex := 121, attributes := #[] }] 49 4 #[] #[{ accessFlags := 25, nameIndex := 354, descriptorIndex := 339, attributes := #[] }, { accessFlags := 25, nameIndex := 358, descriptorIndex := 339, attributes := #[] }, { accessFlags := 25, nameIndex := 361, descriptorIndex := 339, attributes := #[] }, { accessFlags := 26, nameIndex := 364, descriptorIndex := 339, attributes := #[] }, { accessFlags := 26, nameIndex := 365, descriptorIndex := 339, attributes := #[] }, { accessFlags := 26, nameIndex := 172, descriptorIndex := 173, attributes := #[] }, { accessFlags := 26, nameIndex := 176, descriptorIndex := 173, attributes := #[] }, { accessFlags := 8, nameIndex := 344, descriptorIndex := 339, attributes := #[] }, { accessFlags := 8, nameIndex := 338, descriptorIndex := 339, attributes := #[] }, { accessFlags := 4120, nameIndex := 245, descriptorIndex := 246, attributes := #[] }])
  fields := #[{ name := "E", type := .double, accessFlags := 25, slot := 0, constantValue := 0 }, { name := "PI", type := .double, accessFlags := 25, slot := 1, constantValue := 0 }, { name := "TAU", type := .double, accessFlags := 25, slot := 2, constantValue := 0 }, { name := "DEGREES_TO_RADIANS", type := .double, accessFlags := 26, slot := 3, constantValue := 0 }, { name := "RADIANS_TO_DEGREES", type := .double, accessFlags := 26, slot := 4, constantValue := 0 }, { name := "negativeZeroFloatBits", type := .long, accessFlags := 26, slot := 5, constantValue := 0 }, { name := "negativeZeroDoubleBits", type := .long, accessFlags := 26, slot := 6, constantValue := 0 }, { name := "twoToTheDoubleScaleUp", type := .double, accessFlags := 8, slot := 7, constantValue := 0 }, { name := "twoToTheDoubleScaleDown", type := .double, accessFlags := 8, slot := 8, constantValue := 0 }, { name := "$assertionsDisabled", type := .boolean, accessFlags := 4120, slot := 9, constantValue := 0 }]
  methods := #[k2m0, k2m1, k2m2]
  instanceTypes := #[]
  staticTypes := #[.double, .double, .double, .double, .double, .long, .long, .double, .double, .boolean]
  resolved := Array.replicate 460 none
  statics := none }

def pool3 : Array CpInfo := pool [(1, .methodref 2 3), (0, .class_ 4), (0, .nameAndType 5 6), (0, u "java/lang/Object"), (0, u "<init>"), (0, u "()V"), (0, .fieldref 8 9), (0, .class_ 10), (0, .nameAndType 11 12), (0, u "com/example/nearstable/nearstable/asm/Quantiles"), (0, u "k"), (0, u "J"), (6, u "(J)V"), (2, u "of"), (0, u "(II)J")] 5

def k3c0 : Code := { maxStack := 3, maxLocals := 3, code := prog_7_method_1_code, exceptionTable := #[], attributes := #[] }
def k3m0 : Method := { name := "<init>", desc := "(J)V", sig := { parameters := [.long], returnType := none }, accessFlags := 0, code := some k3c0 }
def k3c1 : Code := { maxStack := 4, maxLocals := 3, code := prog_7_method_2_code, exceptionTable := #[], attributes := #[] }
def k3m1 : Method := { name := "of", desc := "(II)J", sig := { parameters := [.int, .int], returnType := some .long }, accessFlags := 0, code := some k3c1 }
/-- com/example/nearstable/nearstable/asm/Quantiles -/
def k3 : Class := { plain "com/example/nearstable/nearstable/asm/Quantiles" (some 0) with
  accessFlags := 48
  interfaces := #[]
  cf := some (fileOf pool3 8 #[] #[{ accessFlags := 0, nameIndex := 5, descriptorIndex := 19, attributes := #[] }, { accessFlags := 0, nameIndex := 22, descriptorIndex := 23, attributes := #[] }] 48 2 #[] #[{ accessFlags := 18, nameIndex := 11, descriptorIndex := 12, attributes := #[] }])
  fields := #[{ name := "k", type := .long, accessFlags := 18, slot := 0, constantValue := 0 }]
  methods := #[k3m0, k3m1]
  instanceTypes := #[.long]
  staticTypes := #[]
  resolved := Array.replicate 29 none
  statics := none }

def pool4 : Array CpInfo := pool [(1, u "java/lang/Cloneable"), (0, .class_ 1), (0, u "java/lang/Object"), (0, .class_ 3)] 3

/-- java/lang/Cloneable -/
def k4 : Class := { plain "java/lang/Cloneable" (some 0) with
  accessFlags := 1537
  interfaces := #[]
  cf := some (fileOf pool4 2 #[] #[] 1537 4 #[] #[])
  fields := #[]
  methods := #[]
  instanceTypes := #[]
  staticTypes := #[]
  resolved := Array.replicate 8 none
  statics := none }

def pool5 : Array CpInfo := pool [(1, u "java/io/Serializable"), (0, .class_ 1), (0, u "java/lang/Object"), (0, .class_ 3)] 3

/-- java/io/Serializable -/
def k5 : Class := { plain "java/io/Serializable" (some 0) with
  accessFlags := 1537
  interfaces := #[]
  cf := some (fileOf pool5 2 #[] #[] 1537 4 #[] #[])
  fields := #[]
  methods := #[]
  instanceTypes := #[]
  staticTypes := #[]
  resolved := Array.replicate 8 none
  statics := none }

/-- the primitive byte -/
def k6 : Class := { plain "byte" none with kind := .primitive 'B', accessFlags := 0x411 }
/-- [B -/
def k7 : Class := { plain "[B" (some 0) with kind := .array 6 .byte, interfaces := #[4, 5], accessFlags := 1041 }

/-- the primitive int -/
def k8 : Class := { plain "int" none with kind := .primitive 'I', accessFlags := 0x411 }
/-- [I -/
def k9 : Class := { plain "[I" (some 0) with kind := .array 8 .int, interfaces := #[4, 5], accessFlags := 1041 }

def heap : Heap := #[]
def classes : Array Class := #[k0, k1, k2, k3, k4, k5, k6, k7, k8, k9]
def interned : List (Array UInt16 × Addr) := []
def slotsUsed : Nat := 0
def theMethod : MethodId := ⟨1, 1⟩
def args0 : Array Value := #[.long 5, .int 5, .int 5, .int 5]
def aboutOver (below : List Frame) : State where
  vm := { classes := classes, interned := interned.toArray }
  heap := heap
  slotsUsed := slotsUsed
  threads := #[{ frames := .invoking theMethod args0 :: below }]
def below0 : List Frame := [.native { method := ⟨0, 0⟩, args := #[] }]
def about1 : State := aboutOver below0
def p0 : Program := .bare "" "" ""
def e0 : Env := launch0.env 0 0 0
theorem w_frames : about1.frames = Frame.invoking theMethod args0 :: below0 := rfl
set_option maxRecDepth 65536 in
theorem w_args : argsFit about1.vm theMethod args0 = true := by decide +kernel
set_option maxRecDepth 65536 in
theorem w_heap : heapFits about1 = true := by decide +kernel
set_option maxRecDepth 65536 in
theorem w_runnable : about1.curStatus? = some .runnable := by decide +kernel
set_option maxRecDepth 65536 in
theorem w_alone : about1.alone = true := by decide +kernel
set_option maxRecDepth 65536 in
theorem w_named : about1.methodNamed? x = some theMethod := by decide +kernel
set_option maxRecDepth 65536 in
theorem w_hears : about1.hears theMethod below0 = true := by decide +kernel
set_option maxRecDepth 65536 in
theorem w_ripe : about1.ripe theMethod args0 below0 = true := by decide +kernel
theorem w_running : about1.status = .running := rfl
set_option maxRecDepth 65536 in
theorem w_room : about1.hasRoom e0.platform room_1 = true :=
  launch0.hasRoom_least _ room_1 (by decide +kernel) (by decide +kernel) (by decide +kernel) (by decide +kernel) (by decide +kernel) (by decide +kernel)
theorem allAtoms_all (ts : List Jvm.Cond) (a : Array Jvm.Value) (st : Jvm.State) : (allAtoms ts).before a st = ts.all (fun c => c.before a st) := by
  induction ts with
  | nil => rfl
  | cons c t ih =>
    show (Jvm.Cond.and c (allAtoms t)).before a st = _
    rw [Jvm.Cond.before_and, ih, List.all_cons]
def words1 : List Jvm.Cond := Jvm.Cond.code x code maxLocals ret :: tables_1
/-- a 'code' word, met by the world's own term for the bytes: nothing is compared byte by byte -/
theorem code_word {y : MethodName} {bytes : ByteArray} {mx : Nat} {rt : Option FieldType} {a : Array Value} {s : State} {m : MethodId} {meth : Method} {c : Code} (h1 : s.methodNamed? y = some m) (h2 : s.vm.method? m = some meth) (h3 : meth.code = some c) (h4 : c.code = bytes)
    (h5 : (c.maxLocals == mx && c.exceptionTable.isEmpty && decide (c.maxStack ≤ mostOperands) && decide (meth.sig.returnType = rt) && !meth.locks && decide (parseMethodDescriptor y.desc = some meth.sig)) = true) : (Jvm.Cond.code y bytes mx rt).before a s = true := by
  simp only [Bool.and_eq_true, beq_iff_eq, Bool.not_eq_true', decide_eq_true_eq] at h5
  obtain ⟨⟨⟨⟨⟨g1, g2⟩, g3⟩, g4⟩, g5⟩, g6⟩ := h5
  simp [Cond.before, Cond.holds, Cond.value, h1, h2, h3, h4, g1, g2, g3, g4, g5, g6]
def isCode : Jvm.Cond → Bool
  | .code _ _ _ _ => true
  | _ => false
theorem all_split {L : List Jvm.Cond} {P : Jvm.Cond → Bool} (h1 : L.all (fun c => isCode c || P c) = true) (h2 : ∀ c ∈ L.filter isCode, P c = true) : L.all P = true := by
  refine List.all_eq_true.mpr fun c hc => ?_
  have h := List.all_eq_true.mp h1 c hc
  rcases Bool.eq_false_or_eq_true (isCode c) with hi | hi
  · exact h2 c (List.mem_filter.mpr ⟨hc, hi⟩)
  · simpa [hi] using h
set_option maxRecDepth 65536 in
theorem w_c0 : (Jvm.Cond.code x code maxLocals ret).before args0 about1 = true := code_word (m := ⟨1, 1⟩) (meth := k1m1) (c := k1c1) (by decide +kernel) rfl rfl rfl (by decide +kernel)
set_option maxRecDepth 65536 in
theorem w_c1 : (Jvm.Cond.code ({ cls := "java/lang/Math", name := "max", desc := "(II)I" } : Jvm.MethodName) jdk_29_method_65_code (2 : Nat) (Option.some Jvm.ClassFile.FieldType.int)).before args0 about1 = true := code_word (m := ⟨2, 1⟩) (meth := k2m1) (c := k2c1) (by decide +kernel) rfl rfl rfl (by decide +kernel)
set_option maxRecDepth 65536 in
theorem w_c2 : (Jvm.Cond.code ({ cls := "java/lang/Math", name := "max", desc := "(JJ)J" } : Jvm.MethodName) jdk_29_method_66_code (4 : Nat) (Option.some Jvm.ClassFile.FieldType.long)).before args0 about1 = true := code_word (m := ⟨2, 2⟩) (meth := k2m2) (c := k2c2) (by decide +kernel) rfl rfl rfl (by decide +kernel)
set_option maxRecDepth 65536 in
theorem w_c3 : (Jvm.Cond.code ({ cls := "com/example/nearstable/nearstable/asm/Quantiles", name := "<init>", desc := "(J)V" } : Jvm.MethodName) prog_7_method_1_code (3 : Nat) (Option.none : Option Jvm.ClassFile.FieldType)).before args0 about1 = true := code_word (m := ⟨3, 0⟩) (meth := k3m0) (c := k3c0) (by decide +kernel) rfl rfl rfl (by decide +kernel)
set_option maxRecDepth 65536 in
theorem w_c4 : (Jvm.Cond.code ({ cls := "java/lang/Object", name := "<init>", desc := "()V" } : Jvm.MethodName) object_method_1_code (1 : Nat) (Option.none : Option Jvm.ClassFile.FieldType)).before args0 about1 = true := code_word (m := ⟨0, 0⟩) (meth := k0m0) (c := k0c0) (by decide +kernel) rfl rfl rfl (by decide +kernel)
set_option maxRecDepth 65536 in
theorem w_c5 : (Jvm.Cond.code ({ cls := "com/example/nearstable/nearstable/asm/Quantiles", name := "of", desc := "(II)J" } : Jvm.MethodName) prog_7_method_2_code (3 : Nat) (Option.some Jvm.ClassFile.FieldType.long)).before args0 about1 = true := code_word (m := ⟨3, 1⟩) (meth := k3m1) (c := k3c1) (by decide +kernel) rfl rfl rfl (by decide +kernel)
def codes1 : List Jvm.Cond := [Jvm.Cond.code x code maxLocals ret, Jvm.Cond.code ({ cls := "java/lang/Math", name := "max", desc := "(II)I" } : Jvm.MethodName) jdk_29_method_65_code (2 : Nat) (Option.some Jvm.ClassFile.FieldType.int), Jvm.Cond.code ({ cls := "java/lang/Math", name := "max", desc := "(JJ)J" } : Jvm.MethodName) jdk_29_method_66_code (4 : Nat) (Option.some Jvm.ClassFile.FieldType.long), Jvm.Cond.code ({ cls := "com/example/nearstable/nearstable/asm/Quantiles", name := "<init>", desc := "(J)V" } : Jvm.MethodName) prog_7_method_1_code (3 : Nat) (Option.none : Option Jvm.ClassFile.FieldType), Jvm.Cond.code ({ cls := "java/lang/Object", name := "<init>", desc := "()V" } : Jvm.MethodName) object_method_1_code (1 : Nat) (Option.none : Option Jvm.ClassFile.FieldType), Jvm.Cond.code ({ cls := "com/example/nearstable/nearstable/asm/Quantiles", name := "of", desc := "(II)J" } : Jvm.MethodName) prog_7_method_2_code (3 : Nat) (Option.some Jvm.ClassFile.FieldType.long)]
set_option maxRecDepth 65536 in
theorem codes_eq : words1.filter isCode = codes1 := rfl
theorem w_codes : ∀ c ∈ words1.filter isCode, c.before args0 about1 = true := by
  rw [codes_eq]
  intro c hc
  simp only [codes1, List.mem_cons, List.not_mem_nil, or_false] at hc
  rcases hc with rfl | rfl | rfl | rfl | rfl | rfl
  · exact w_c0
  · exact w_c1
  · exact w_c2
  · exact w_c3
  · exact w_c4
  · exact w_c5
set_option maxRecDepth 65536 in
theorem w_t1 : (words1.take 24).all (fun c => isCode c || c.before args0 about1) = true := by decide +kernel
set_option maxRecDepth 65536 in
theorem w_t2 : (words1.drop 24).all (fun c => isCode c || c.before args0 about1) = true := by decide +kernel
theorem w_tables : (allAtoms (Jvm.Cond.code x code maxLocals ret :: tables_1)).before args0 about1 = true := by
  rw [allAtoms_all]
  show words1.all (fun c => c.before args0 about1) = true
  refine all_split ?_ w_codes
  rw [← List.take_append_drop 24 words1, List.all_append, w_t1, w_t2]
  rfl
set_option maxRecDepth 65536 in
theorem w_case : (Jvm.Cond.and given_1 narrow_1).before args0 about1 = true := by decide +kernel
theorem w_applies : (headSpec (Jvm.Cond.code x code maxLocals ret :: tables_1) room_1).applies x e0.platform about1 = true :=
  (Spec.applies_iff w_frames).mpr ⟨w_running, w_runnable, w_alone, w_named, w_hears, w_ripe, w_room, w_tables⟩
theorem atStart : AtStart classFile x code maxLocals ret World_1 tables_1 room_1 Calls_1 rest_1 Pre_1 launch0 p0 e0 about1 theMethod args0 below0 :=
  ⟨lists_1, trivial, launch0.admits_env _ _ _, launch0.least_env, fairChoices_fair.cas, fairChoices_fair.clock, w_frames, w_args, w_heap, w_applies, trivial, trivial, w_case⟩
end start1
theorem witness_1 : WitnessClaimed_1 := ⟨start1.p0, start1.e0, start1.about1, start1.theMethod, start1.args0, start1.below0, start1.atStart⟩
end Jvm.Pilot.@@N@@
