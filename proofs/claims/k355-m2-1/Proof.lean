import JvmDerived
import JvmDerived.Pilot.@@N@@Statement
import JvmDerived.Pilot.@@N@@Code
set_option linter.unusedVariables false
set_option linter.unusedSimpArgs false
namespace Jvm.OwnWalk
open Sem ClassFile Op Lib Jvm.Stand Jvm.Free Jvm.LawKit Jvm.RoadKit
/-- from t the run comes to an end of which P holds -/
def Win (tb : Tables) (e : Env) (below : List Frame) (P : State → Outcome → Prop) (t : State) : Prop :=
  ∃ s₂ o, Steps tb e below t s₂ ∧ s₂.status = .running ∧ Ended s₂ below o ∧ P s₂ o
theorem Win.go {tb : Tables} {e : Env} {below : List Frame} {P : State → Outcome → Prop} {t t' : State} (st : ∀ z, Steps tb e below t' z → Steps tb e below t z) (w : Win tb e below P t') : Win tb e below P t := by
  obtain ⟨s2, o, h, r⟩ := w; exact ⟨s2, o, st _ h, r⟩
theorem Win.come {tb : Tables} {e : Env} {below : List Frame} {P : State → Outcome → Prop} {t t' : State} (st : Steps tb e below t t') (w : Win tb e below P t') : Win tb e below P t := by
  obtain ⟨s2, o, h, r⟩ := w; exact ⟨s2, o, st.trans h, r⟩
/-- the body has returned v with the heap h, L written -/
def PostQ (s : State) (Q : Option Value → Heap → List Loc → Prop) (C S : Nat) (u : State) (o : Outcome) : Prop := ∃ v L, o = .returned v ∧ Q v u.heap L ∧ FrameEnd s o u L C S
section Ret
variable {p : Program} {l : Launch} {e : Env} {R : Room} {s : State} {m : MethodId} {args : Array Value} {below : List Frame} {meth : Method} {c : Code} {T : State} {locs : List Loc} {cells slots : Nat} {h : Heap} {Q : Option Value → Heap → List Loc → Prop} {C S : Nat}
theorem retI' (X : Stand p l e R s m args below meth c T locs cells slots) (hx : p.tables.exec = Jvm.exec) {pc : Nat} {Ls : Array Slot} {z : Int32} {rest : List Value} (hret : meth.sig.returnType = some .int) (hd : decode c.code pc = .ok (.ireturn, 1)) {fs : List Frame}
    (hl : ∀ (f : JFrame) (acts : List Action), f.method = m → f.locked = none → f.entered = [] → (doReturn e (T.setTop f) acts (some (.int z))).1 = T.setFrames fs) : Steps p.tables e below (T.setTop (mkF m pc Ls (.int z :: rest))) (T.setFrames fs) := by
  have hm' : T.vm.method? m = some meth := X.method'
  have hn : narrow .int (.int z) = .int z := rfl
  show Steps p.tables e below (T.setTop { method := m, pc := pc, locals := Ls, stack := _ :: rest, locked := none }) _
  jvm_step X.here [X.here.top, hx, hd, hm', hret, hn]
  first | (intro acts; rw [hl _ acts rfl rfl rfl]) | rw [hl _ _ rfl rfl rfl]
  exact Steps.refl _
theorem retA' (X : Stand p l e R s m args below meth c T locs cells slots) (hx : p.tables.exec = Jvm.exec) {pc : Nat} {Ls : Array Slot} {w : Value} {t : FieldType} (hret : meth.sig.returnType = some t) (ht : t.isReference = true) (hv : w.isRef = true) (hd : decode c.code pc = .ok (.areturn, 1)) {fs : List Frame}
    (hl : ∀ (f : JFrame) (acts : List Action), f.method = m → f.locked = none → f.entered = [] → (doReturn e (T.setTop f) acts (some w)).1 = T.setFrames fs) : Steps p.tables e below (T.setTop (mkF m pc Ls [w])) (T.setFrames fs) := by
  have hm' : T.vm.method? m = some meth := X.method'
  show Steps p.tables e below (T.setTop { method := m, pc := pc, locals := Ls, stack := [w], locked := none }) _
  jvm_step X.here [X.here.top, hx, hd, hm', hret, hv, ht]
  first | (intro acts; rw [hl _ acts rfl rfl rfl]) | rw [hl _ _ rfl rfl rfl]
  exact Steps.refl _
theorem winI (X : Stand p l e R s m args below meth c T locs cells slots) (hx : p.tables.exec = Jvm.exec) (hlk : meth.locks = false) (eT : T.heap = h) {pc : Nat} {Ls : Array Slot} {z : Int32} {rest : List Value} (hret : meth.sig.returnType = some .int) (hd : decode c.code pc = .ok (.ireturn, 1))
    (hc : cells ≤ C) (hs : slots ≤ S) (hQ : Q (some (.int z)) h locs) : Win p.tables e below (PostQ s Q C S) (T.setTop (mkF m pc Ls (.int z :: rest))) := by
  subst eT
  obtain ⟨fs, hr, hrun, hended, hW, hsame⟩ := X.leave (v := some (.int z)) (fun h => by rw [hret] at h; cases h) hlk
  exact ⟨_, _, retI' X hx hret hd hr, hrun, hended, _, _, rfl, hQ, ⟨_, rfl⟩, hW, hsame.mono hc hs⟩
theorem winN (X : Stand p l e R s m args below meth c T locs cells slots) (hx : p.tables.exec = Jvm.exec) (hlk : meth.locks = false) (eT : T.heap = h) {pc : Nat} {Ls : Array Slot} {z z' : Int32} {rest : List Value} {t : FieldType} (hret : meth.sig.returnType = some t) (ht : t = .boolean ∨ t = .byte ∨ t = .char ∨ t = .short) (hd : decode c.code pc = .ok (.ireturn, 1))
    (hc : cells ≤ C) (hs : slots ≤ S) (hz : nar t z = z') (hQ : Q (some (.int z')) h locs) : Win p.tables e below (PostQ s Q C S) (T.setTop (mkF m pc Ls (.int z :: rest))) := by
  subst eT hz
  obtain ⟨fs, hr, hrun, hended, hW, hsame⟩ := X.leave (v := some (.int (nar t z))) (fun h => by rw [hret] at h; cases h) hlk
  exact ⟨_, _, retN X hx hret ht hd hr, hrun, hended, _, _, rfl, hQ, ⟨_, rfl⟩, hW, hsame.mono hc hs⟩
theorem winL (X : Stand p l e R s m args below meth c T locs cells slots) (hx : p.tables.exec = Jvm.exec) (hlk : meth.locks = false) (eT : T.heap = h) {pc : Nat} {Ls : Array Slot} {z : Int64} (hret : meth.sig.returnType = some .long) (hd : decode c.code pc = .ok (.lreturn, 1))
    (hc : cells ≤ C) (hs : slots ≤ S) (hQ : Q (some (.long z)) h locs) : Win p.tables e below (PostQ s Q C S) (T.setTop (mkF m pc Ls [.long z])) := by
  subst eT
  obtain ⟨fs, hr, hrun, hended, hW, hsame⟩ := X.leave (v := some (.long z)) (fun h => by rw [hret] at h; cases h) hlk
  exact ⟨_, _, X.lreturnOut hx hret hd hr, hrun, hended, _, _, rfl, hQ, ⟨_, rfl⟩, hW, hsame.mono hc hs⟩
theorem winA (X : Stand p l e R s m args below meth c T locs cells slots) (hx : p.tables.exec = Jvm.exec) (hlk : meth.locks = false) (eT : T.heap = h) {pc : Nat} {Ls : Array Slot} {w : Value} {t : FieldType} (hret : meth.sig.returnType = some t) (ht : t.isReference = true) (hv : w.isRef = true) (hd : decode c.code pc = .ok (.areturn, 1))
    (hc : cells ≤ C) (hs : slots ≤ S) (hQ : Q (some w) h locs) : Win p.tables e below (PostQ s Q C S) (T.setTop (mkF m pc Ls [w])) := by
  subst eT
  obtain ⟨fs, hr, hrun, hended, hW, hsame⟩ := X.leave (v := some w) (fun h => by rw [hret] at h; cases h) hlk
  exact ⟨_, _, retA' X hx hret ht hv hd hr, hrun, hended, _, _, rfl, hQ, ⟨_, rfl⟩, hW, hsame.mono hc hs⟩
theorem winV (X : Stand p l e R s m args below meth c T locs cells slots) (hx : p.tables.exec = Jvm.exec) (hlk : meth.locks = false) (eT : T.heap = h) {pc : Nat} {Ls : Array Slot} (hret : meth.sig.returnType = none) (hd : decode c.code pc = .ok (.return_, 1))
    (hc : cells ≤ C) (hs : slots ≤ S) (hQ : Q none h locs) : Win p.tables e below (PostQ s Q C S) (T.setTop (mkF m pc Ls [])) := by
  subst eT
  obtain ⟨fs, hr, hrun, hended, hW, hsame⟩ := X.leave (v := none) (fun _ => rfl) hlk
  exact ⟨_, _, X.returnOut hx hret hd hr, hrun, hended, _, _, rfl, hQ, ⟨_, rfl⟩, hW, hsame.mono hc hs⟩
def PostQW (s : State) (Q : Option Value → Heap → List Loc → Prop) (C S : Nat) (u : State) (o : Outcome) : Prop := ∃ v L, o = .returned v ∧ Q v u.heap L ∧ ReturnedEndW s o u L C S
theorem winNW {vm0 : Vm} {k0 : Nat} (hS : s.Since vm0 k0) (hk : k0 ≤ h.size) (X : Stand p l e R (s.setVm vm0) m args below meth c T locs cells slots) (hx : p.tables.exec = Jvm.exec) (hlk : meth.locks = false) (eT : T.heap = h) {pc : Nat} {Ls : Array Slot} {z z' : Int32} {rest : List Value} {t : FieldType} (hret : meth.sig.returnType = some t) (ht : t = .boolean ∨ t = .byte ∨ t = .char ∨ t = .short) (hd : decode c.code pc = .ok (.ireturn, 1))
    (hc : cells ≤ C) (hs : slots ≤ S) (hz : nar t z = z') (hQ : Q (some (.int z')) h locs) : Win p.tables e below (PostQW s Q C S) (T.setTop (mkF m pc Ls (.int z :: rest))) := by
  subst eT hz
  obtain ⟨fs, hr, hrun, hended, h1, h2, h3, h4⟩ := X.leaveW hS hk (v := some (.int (nar t z))) (fun h => by rw [hret] at h; cases h) hlk
  exact ⟨_, _, retN X hx hret ht hd hr, hrun, hended, _, _, rfl, hQ, ⟨_, rfl⟩, h2, h3, h4.mono hc hs⟩
end Ret
section Steps
variable {tb : Tables} [Ours tb] {e : Env} {below : List Frame} {P : State → Outcome → Prop} {T : State} {m : MethodId} {c : Code} {pc pc' : Nat} {ls : Array Slot} {st : List Value}
theorem s_iloadN {k : Fin 4} {v : Int32} (h : At T m c below) (hx : tb.exec = Jvm.exec) (hd : decode c.code pc = .ok (.iload_n k, 1)) (hp : pc + 1 = pc') (hl : ls[k.val]? = some (.val (.int v))) (w : Win tb e below P (T.setTop (mkF m pc' ls (.int v :: st)))) : Win tb e below P (T.setTop (mkF m pc ls st)) := by
  subst hp; exact Win.go (fun _ k => XS.iloadN h hx rfl hd hl k) w
theorem s_iload {k : Nat} {v : Int32} (h : At T m c below) (hx : tb.exec = Jvm.exec) (hd : decode c.code pc = .ok (.iload k, 2)) (hp : pc + 2 = pc') (hl : ls[k]? = some (.val (.int v))) (w : Win tb e below P (T.setTop (mkF m pc' ls (.int v :: st)))) : Win tb e below P (T.setTop (mkF m pc ls st)) := by
  subst hp; exact Win.go (fun _ k => XS.iload h hx rfl hd hl k) w
theorem s_lloadN {k : Fin 4} {v : Int64} (h : At T m c below) (hx : tb.exec = Jvm.exec) (hd : decode c.code pc = .ok (.lload_n k, 1)) (hp : pc + 1 = pc') (hl : ls[k.val]? = some (.val (.long v))) (w : Win tb e below P (T.setTop (mkF m pc' ls (.long v :: st)))) : Win tb e below P (T.setTop (mkF m pc ls st)) := by
  subst hp; exact Win.go (fun _ k => XS.lloadN h hx rfl hd hl k) w
theorem s_lload {k : Nat} {v : Int64} (h : At T m c below) (hx : tb.exec = Jvm.exec) (hd : decode c.code pc = .ok (.lload k, 2)) (hp : pc + 2 = pc') (hl : ls[k]? = some (.val (.long v))) (w : Win tb e below P (T.setTop (mkF m pc' ls (.long v :: st)))) : Win tb e below P (T.setTop (mkF m pc ls st)) := by
  subst hp; exact Win.go (fun _ k => XS.lload h hx rfl hd hl k) w
theorem s_aloadN {k : Fin 4} {v : Value} (h : At T m c below) (hx : tb.exec = Jvm.exec) (hd : decode c.code pc = .ok (.aload_n k, 1)) (hp : pc + 1 = pc') (hl : ls[k.val]? = some (.val v)) (hv : v.isRef = true) (w : Win tb e below P (T.setTop (mkF m pc' ls (v :: st)))) : Win tb e below P (T.setTop (mkF m pc ls st)) := by
  subst hp; exact Win.go (fun _ k => XS.aloadN h hx rfl hd hl hv k) w
theorem s_aload {k : Nat} {v : Value} (h : At T m c below) (hx : tb.exec = Jvm.exec) (hd : decode c.code pc = .ok (.aload k, 2)) (hp : pc + 2 = pc') (hl : ls[k]? = some (.val v)) (hv : v.isRef = true) (w : Win tb e below P (T.setTop (mkF m pc' ls (v :: st)))) : Win tb e below P (T.setTop (mkF m pc ls st)) := by
  subst hp; exact Win.go (fun _ k => XS.aload h hx rfl hd hl hv k) w
theorem s_iadd {x y : Int32} (h : At T m c below) (hx : tb.exec = Jvm.exec) (hd : decode c.code pc = .ok (.iadd, 1)) (hp : pc + 1 = pc') (w : Win tb e below P (T.setTop (mkF m pc' ls (.int (x + y) :: st)))) : Win tb e below P (T.setTop (mkF m pc ls (.int y :: .int x :: st))) := by
  subst hp; exact Win.go (fun _ k => XS.iadd h hx rfl hd rfl k) w
theorem s_isub {x y : Int32} (h : At T m c below) (hx : tb.exec = Jvm.exec) (hd : decode c.code pc = .ok (.isub, 1)) (hp : pc + 1 = pc') (w : Win tb e below P (T.setTop (mkF m pc' ls (.int (x - y) :: st)))) : Win tb e below P (T.setTop (mkF m pc ls (.int y :: .int x :: st))) := by
  subst hp; exact Win.go (fun _ k => XS.isub h hx rfl hd rfl k) w
theorem s_imul {x y : Int32} (h : At T m c below) (hx : tb.exec = Jvm.exec) (hd : decode c.code pc = .ok (.imul, 1)) (hp : pc + 1 = pc') (w : Win tb e below P (T.setTop (mkF m pc' ls (.int (x * y) :: st)))) : Win tb e below P (T.setTop (mkF m pc ls (.int y :: .int x :: st))) := by
  subst hp; exact Win.go (fun _ k => XS.imul h hx rfl hd rfl k) w
theorem s_iand {x y : Int32} (h : At T m c below) (hx : tb.exec = Jvm.exec) (hd : decode c.code pc = .ok (.iand, 1)) (hp : pc + 1 = pc') (w : Win tb e below P (T.setTop (mkF m pc' ls (.int (x &&& y) :: st)))) : Win tb e below P (T.setTop (mkF m pc ls (.int y :: .int x :: st))) := by
  subst hp; exact Win.go (fun _ k => XS.iand h hx rfl hd rfl k) w
theorem s_ior {x y : Int32} (h : At T m c below) (hx : tb.exec = Jvm.exec) (hd : decode c.code pc = .ok (.ior, 1)) (hp : pc + 1 = pc') (w : Win tb e below P (T.setTop (mkF m pc' ls (.int (x ||| y) :: st)))) : Win tb e below P (T.setTop (mkF m pc ls (.int y :: .int x :: st))) := by
  subst hp; exact Win.go (fun _ k => XS.ior h hx rfl hd rfl k) w
theorem s_ixor {x y : Int32} (h : At T m c below) (hx : tb.exec = Jvm.exec) (hd : decode c.code pc = .ok (.ixor, 1)) (hp : pc + 1 = pc') (w : Win tb e below P (T.setTop (mkF m pc' ls (.int (x ^^^ y) :: st)))) : Win tb e below P (T.setTop (mkF m pc ls (.int y :: .int x :: st))) := by
  subst hp; exact Win.go (fun _ k => XS.ixor h hx rfl hd rfl k) w
theorem s_ladd {x y : Int64} (h : At T m c below) (hx : tb.exec = Jvm.exec) (hd : decode c.code pc = .ok (.ladd, 1)) (hp : pc + 1 = pc') (w : Win tb e below P (T.setTop (mkF m pc' ls (.long (x + y) :: st)))) : Win tb e below P (T.setTop (mkF m pc ls (.long y :: .long x :: st))) := by
  subst hp; exact Win.go (fun _ k => XS.ladd h hx rfl hd rfl k) w
theorem s_lsub {x y : Int64} (h : At T m c below) (hx : tb.exec = Jvm.exec) (hd : decode c.code pc = .ok (.lsub, 1)) (hp : pc + 1 = pc') (w : Win tb e below P (T.setTop (mkF m pc' ls (.long (x - y) :: st)))) : Win tb e below P (T.setTop (mkF m pc ls (.long y :: .long x :: st))) := by
  subst hp; exact Win.go (fun _ k => XS.lsub h hx rfl hd rfl k) w
theorem s_lmul {x y : Int64} (h : At T m c below) (hx : tb.exec = Jvm.exec) (hd : decode c.code pc = .ok (.lmul, 1)) (hp : pc + 1 = pc') (w : Win tb e below P (T.setTop (mkF m pc' ls (.long (x * y) :: st)))) : Win tb e below P (T.setTop (mkF m pc ls (.long y :: .long x :: st))) := by
  subst hp; exact Win.go (fun _ k => XS.lmul h hx rfl hd rfl k) w
theorem s_land {x y : Int64} (h : At T m c below) (hx : tb.exec = Jvm.exec) (hd : decode c.code pc = .ok (.land, 1)) (hp : pc + 1 = pc') (w : Win tb e below P (T.setTop (mkF m pc' ls (.long (x &&& y) :: st)))) : Win tb e below P (T.setTop (mkF m pc ls (.long y :: .long x :: st))) := by
  subst hp; exact Win.go (fun _ k => XS.land h hx rfl hd rfl k) w
theorem s_lor {x y : Int64} (h : At T m c below) (hx : tb.exec = Jvm.exec) (hd : decode c.code pc = .ok (.lor, 1)) (hp : pc + 1 = pc') (w : Win tb e below P (T.setTop (mkF m pc' ls (.long (x ||| y) :: st)))) : Win tb e below P (T.setTop (mkF m pc ls (.long y :: .long x :: st))) := by
  subst hp; exact Win.go (fun _ k => XS.lor h hx rfl hd rfl k) w
theorem s_lxor {x y : Int64} (h : At T m c below) (hx : tb.exec = Jvm.exec) (hd : decode c.code pc = .ok (.lxor, 1)) (hp : pc + 1 = pc') (w : Win tb e below P (T.setTop (mkF m pc' ls (.long (x ^^^ y) :: st)))) : Win tb e below P (T.setTop (mkF m pc ls (.long y :: .long x :: st))) := by
  subst hp; exact Win.go (fun _ k => XS.lxor h hx rfl hd rfl k) w
theorem s_iconst {i : Int} {z : Int32} (h : At T m c below) (hx : tb.exec = Jvm.exec) (hd : decode c.code pc = .ok (.iconst i, 1)) (hp : pc + 1 = pc') (hz : Int32.ofInt i = z) (w : Win tb e below P (T.setTop (mkF m pc' ls (.int z :: st)))) : Win tb e below P (T.setTop (mkF m pc ls st)) := by
  subst hp hz; exact Win.go (fun _ k => XS.iconst h hx rfl hd k) w
theorem s_bipush {i : Int} {z : Int32} (h : At T m c below) (hx : tb.exec = Jvm.exec) (hd : decode c.code pc = .ok (.bipush i, 2)) (hp : pc + 2 = pc') (hz : (Int8.ofInt i).toInt32 = z) (w : Win tb e below P (T.setTop (mkF m pc' ls (.int z :: st)))) : Win tb e below P (T.setTop (mkF m pc ls st)) := by
  subst hp hz; exact Win.go (fun _ k => XS.bipush h hx rfl hd k) w
theorem s_sipush {i : Int} {z : Int32} (h : At T m c below) (hx : tb.exec = Jvm.exec) (hd : decode c.code pc = .ok (.sipush i, 3)) (hp : pc + 3 = pc') (hz : (Int16.ofInt i).toInt32 = z) (w : Win tb e below P (T.setTop (mkF m pc' ls (.int z :: st)))) : Win tb e below P (T.setTop (mkF m pc ls st)) := by
  subst hp hz; exact Win.go (fun _ k => XS.sipush h hx rfl hd k) w
theorem s_lconst {i : Fin 2} {z : Int64} (h : At T m c below) (hx : tb.exec = Jvm.exec) (hd : decode c.code pc = .ok (.lconst i, 1)) (hp : pc + 1 = pc') (hz : Int64.ofNat i = z) (w : Win tb e below P (T.setTop (mkF m pc' ls (.long z :: st)))) : Win tb e below P (T.setTop (mkF m pc ls st)) := by
  subst hp hz; exact Win.go (fun _ k => XS.lconst h hx rfl hd k) w
theorem s_goto {o : Int} (h : At T m c below) (hx : tb.exec = Jvm.exec) (hd : decode c.code pc = .ok (.goto o, 3)) (ho : 0 ≤ (pc : Int) + o) (hp : ((pc : Int) + o).toNat = pc') (w : Win tb e below P (T.setTop (mkF m pc' ls st))) : Win tb e below P (T.setTop (mkF m pc ls st)) := by
  exact Win.go (fun _ k => XS.goto h hx rfl rfl hd ho hp k) w
theorem s_icmpYes {cd : ClassFile.Cond} {o : Int} {x y : Int32} (h : At T m c below) (hx : tb.exec = Jvm.exec) (hd : decode c.code pc = .ok (.if_icmp cd o, 3)) (hc : if_icmp.holds cd x y = true) (ho : 0 ≤ (pc : Int) + o) (hp : ((pc : Int) + o).toNat = pc') (w : Win tb e below P (T.setTop (mkF m pc' ls st))) : Win tb e below P (T.setTop (mkF m pc ls (.int y :: .int x :: st))) := by
  exact Win.go (fun _ k => XS.icmpYes h hx rfl rfl hd rfl hc ho hp k) w
theorem s_icmpNo {cd : ClassFile.Cond} {o : Int} {x y : Int32} (h : At T m c below) (hx : tb.exec = Jvm.exec) (hd : decode c.code pc = .ok (.if_icmp cd o, 3)) (hp : pc + 3 = pc') (hc : if_icmp.holds cd x y = false) (w : Win tb e below P (T.setTop (mkF m pc' ls st))) : Win tb e below P (T.setTop (mkF m pc ls (.int y :: .int x :: st))) := by
  subst hp; exact Win.go (fun _ k => XS.icmpNo h hx rfl hd rfl hc k) w
theorem s_ifYes {cd : ClassFile.Cond} {o : Int} {x : Int32} (h : At T m c below) (hx : tb.exec = Jvm.exec) (hd : decode c.code pc = .ok (.ifCond cd o, 3)) (hc : ifCond.holds cd x = true) (ho : 0 ≤ (pc : Int) + o) (hp : ((pc : Int) + o).toNat = pc') (w : Win tb e below P (T.setTop (mkF m pc' ls st))) : Win tb e below P (T.setTop (mkF m pc ls (.int x :: st))) := by
  exact Win.go (fun _ k => XS.ifYes h hx rfl rfl hd rfl hc ho hp k) w
theorem s_ifNo {cd : ClassFile.Cond} {o : Int} {x : Int32} (h : At T m c below) (hx : tb.exec = Jvm.exec) (hd : decode c.code pc = .ok (.ifCond cd o, 3)) (hp : pc + 3 = pc') (hc : ifCond.holds cd x = false) (w : Win tb e below P (T.setTop (mkF m pc' ls st))) : Win tb e below P (T.setTop (mkF m pc ls (.int x :: st))) := by
  subst hp; exact Win.go (fun _ k => XS.ifNo h hx rfl hd rfl hc k) w
theorem s_lcmp {x y : Int64} (h : At T m c below) (hx : tb.exec = Jvm.exec) (hd : decode c.code pc = .ok (.lcmp, 1)) (hp : pc + 1 = pc') (w : Win tb e below P (T.setTop (mkF m pc' ls (.int (lcmpW x y) :: st)))) : Win tb e below P (T.setTop (mkF m pc ls (.long y :: .long x :: st))) := by
  subst hp; exact Win.go (fun _ k => XS.lcmp h hx rfl hd rfl k) w
theorem s_istore {k : Nat} {x : Int32} {l' : Array Slot} (h : At T m c below) (hx : tb.exec = Jvm.exec) (hd : decode c.code pc = .ok (.istore k, 2)) (hp : pc + 2 = pc') (hl : storeLocals ls k (.int x) = some l') (w : Win tb e below P (T.setTop (mkF m pc' l' st))) : Win tb e below P (T.setTop (mkF m pc ls (.int x :: st))) := by
  subst hp; exact Win.go (fun _ k => XS.istore h hx rfl hd rfl hl k) w
theorem s_istoreN {k : Fin 4} {x : Int32} {l' : Array Slot} (h : At T m c below) (hx : tb.exec = Jvm.exec) (hd : decode c.code pc = .ok (.istore_n k, 1)) (hp : pc + 1 = pc') (hl : storeLocals ls k.val (.int x) = some l') (w : Win tb e below P (T.setTop (mkF m pc' l' st))) : Win tb e below P (T.setTop (mkF m pc ls (.int x :: st))) := by
  subst hp; exact Win.go (fun _ k => XS.istoreN h hx rfl hd rfl hl k) w
theorem s_lstore {k : Nat} {x : Int64} {l' : Array Slot} (h : At T m c below) (hx : tb.exec = Jvm.exec) (hd : decode c.code pc = .ok (.lstore k, 2)) (hp : pc + 2 = pc') (hl : storeLocals ls k (.long x) = some l') (w : Win tb e below P (T.setTop (mkF m pc' l' st))) : Win tb e below P (T.setTop (mkF m pc ls (.long x :: st))) := by
  subst hp; exact Win.go (fun _ k => XS.lstore h hx rfl hd rfl hl k) w
theorem s_lstoreN {k : Fin 4} {x : Int64} {l' : Array Slot} (h : At T m c below) (hx : tb.exec = Jvm.exec) (hd : decode c.code pc = .ok (.lstore_n k, 1)) (hp : pc + 1 = pc') (hl : storeLocals ls k.val (.long x) = some l') (w : Win tb e below P (T.setTop (mkF m pc' l' st))) : Win tb e below P (T.setTop (mkF m pc ls (.long x :: st))) := by
  subst hp; exact Win.go (fun _ k => XS.lstoreN h hx rfl hd rfl hl k) w
theorem s_astore {k : Nat} {x : Value} {l' : Array Slot} (h : At T m c below) (hx : tb.exec = Jvm.exec) (hd : decode c.code pc = .ok (.astore k, 2)) (hp : pc + 2 = pc') (hv : x.isRef = true) (hl : storeLocals ls k x = some l') (w : Win tb e below P (T.setTop (mkF m pc' l' st))) : Win tb e below P (T.setTop (mkF m pc ls (x :: st))) := by
  subst hp; exact Win.go (fun _ k => XS.astore h hx rfl hd rfl hv hl k) w
theorem s_astoreN {k : Fin 4} {x : Value} {l' : Array Slot} (h : At T m c below) (hx : tb.exec = Jvm.exec) (hd : decode c.code pc = .ok (.astore_n k, 1)) (hp : pc + 1 = pc') (hv : x.isRef = true) (hl : storeLocals ls k.val x = some l') (w : Win tb e below P (T.setTop (mkF m pc' l' st))) : Win tb e below P (T.setTop (mkF m pc ls (x :: st))) := by
  subst hp; exact Win.go (fun _ k => XS.astoreN h hx rfl hd rfl hv hl k) w
theorem s_dup {x : Value} (h : At T m c below) (hx : tb.exec = Jvm.exec) (hd : decode c.code pc = .ok (.dup, 1)) (hp : pc + 1 = pc') (hc : x.category = 1) (w : Win tb e below P (T.setTop (mkF m pc' ls (x :: x :: st)))) : Win tb e below P (T.setTop (mkF m pc ls (x :: st))) := by
  subst hp; exact Win.go (fun _ k => XS.dup h hx rfl hd rfl hc k) w
end Steps
/-- an array of ints by its places: place j holds f j -/
def AF (Z : State) (h : Heap) (a : Addr) (ty : FieldType) (n : Nat) (f : Int → Int32) : Prop := ∃ cl : Cell, Arr Z h a cl ty ∧ cl.slots.size = n ∧ ∀ j : Int32, 0 ≤ j.toInt → j.toInt < n → cl.slots[j.toNatClampNeg]? = some (.int (f j.toInt))
section AFs
variable {Z : State} {h h' : Heap} {a b : Addr} {ty : FieldType} {n : Nat} {f : Int → Int32} {ws : List Addr} {sl : Nat} {v : Value}
theorem AF.lt (F : AF Z h a ty n f) : a < h.size := by obtain ⟨c, A, -⟩ := F; exact A.lt
theorem AF.ext (F : AF Z h a ty n f) (E : Ext h h') : AF Z h' a ty n f := by obtain ⟨c, A, r⟩ := F; exact ⟨c, A.ext E, r⟩
theorem AF.other (F : AF Z h b ty n f) (W : Wr h h' a sl v) (q : b ≠ a) : AF Z h' b ty n f := by obtain ⟨c, A, r⟩ := F; exact ⟨c, A.other W q, r⟩
theorem AF.keep (F : AF Z h a ty n f) (K : Keep h h' ws) (q : a ∉ ws) : AF Z h' a ty n f := by obtain ⟨c, A, r⟩ := F; exact ⟨c, ⟨K.2.1 a c A.1 q, A.2⟩, r⟩
theorem AF.inb {c : Cell} {j : Int32} (S : c.slots.size = n) (q : 0 ≤ j.toInt ∧ j.toInt < n) : ¬ (j < 0 ∨ c.slots.size ≤ j.toNatClampNeg) := by
  rw [S, Int32.lt_iff_toInt_lt]; have e0 : (0 : Int32).toInt = 0 := rfl
  simp only [Int32.toNatClampNeg]; omega
def updF (f : Int → Int32) (j : Int) (v : Int32) : Int → Int32 := fun i => if i = j then v else f i
theorem updF_hit (f : Int → Int32) (j : Int) (v : Int32) : updF f j v j = v := if_pos rfl
theorem updF_miss {f : Int → Int32} {i j : Int} {v : Int32} (q : i ≠ j) : updF f j v i = f i := if_neg q
theorem AF.set {cl : Cell} {j v : Int32} (A : Arr Z h a cl ty) (S : cl.slots.size = n) (G : ∀ j : Int32, 0 ≤ j.toInt → j.toInt < n → cl.slots[j.toNatClampNeg]? = some (.int (f j.toInt))) (W : Wr h h' a j.toNatClampNeg (.int v)) (q : 0 ≤ j.toInt ∧ j.toInt < n) : AF Z h' a ty n (updF f j.toInt v) := by
  have e0 : (0 : Int32).toInt = 0 := rfl
  refine ⟨_, A.same W, by rw [sz_set]; exact S, fun k h0 h1 => ?_⟩
  by_cases e : k = j
  · subst e; rw [get_hit (AF.inb S q) rfl, updF_hit]
  · rw [get_miss (by rw [Int32.lt_iff_toInt_lt]; omega) (by rw [Int32.lt_iff_toInt_lt]; omega) e, updF_miss (fun z => e (Int32.toInt_inj.mp z))]; exact G k h0 h1
theorem AF.zero {k : ClassId} {z : Int32} (F : Arv Z h a k ty z [] (.int 0)) (q : z.toNatClampNeg = n) : AF Z h a ty n (fun _ => 0) := by
  obtain ⟨c, A, -, S, -, H, -⟩ := F
  refine ⟨c, A, S.trans q, fun j h0 h1 => ?_⟩
  have e : j.toNatClampNeg = j.toInt.toNat := rfl
  exact H _ (by rw [S, q, e]; omega)
theorem AF.ex {k : ClassId} {z : Int32} {vs : List Value} {dv : Value} (F : Arv Z h a k .byte z vs dv) (q : z.toNatClampNeg = n) : ∃ f, AF Z h a .byte n f := by
  obtain ⟨c, A, -, S, -, H, G⟩ := F
  refine ⟨fun i => match c.slots[i.toNat]? with | some (.int x) => x | _ => 0, c, A, S.trans q, fun j h0 h1 => ?_⟩
  have e : j.toNatClampNeg = j.toInt.toNat := rfl
  have hj : j.toInt.toNat < c.slots.size := by rw [S, q]; omega
  have e1 := H _ hj
  have e2 := G _ hj
  show c.slots[j.toInt.toNat]? = some (.int (match c.slots[j.toInt.toNat]? with | some (.int x) => x | _ => 0))
  cases hv : vs.getD j.toInt.toNat dv <;> rw [hv] at e1 e2 <;> first | (rw [e1]; done) | (exact absurd e2 (by simp [fits]))
/-- a byte array of length z -/
def BA (Z : State) (h : Heap) (a : Addr) (z : Int32) : Prop := ∃ (k : ClassId) (vs : List Value), Arv Z h a k .byte z vs (.int 0)
variable {z : Int32}
theorem BA.lt (F : BA Z h a z) : a < h.size := by obtain ⟨_, _, A⟩ := F; exact A.lt
theorem BA.ext (F : BA Z h a z) (E : Ext h h') : BA Z h' a z := by obtain ⟨k, vs, A⟩ := F; exact ⟨k, vs, A.ext E⟩
theorem BA.other (F : BA Z h b z) (W : Wr h h' a sl v) (q : b ≠ a) : BA Z h' b z := by obtain ⟨k, vs, A⟩ := F; exact ⟨k, vs, A.other W q⟩
theorem BA.keep (F : BA Z h a z) (K : Keep h h' ws) (q : a ∉ ws) : BA Z h' a z := by obtain ⟨k, vs, A⟩ := F; exact ⟨k, vs, A.keep K q⟩
theorem cpBA {p : Program} {l : Launch} {e : Env} {R : Room} {s : State} {m : MethodId} {args : Array Value} {below : List Frame} {meth : Method} {c : Code} {T : State} {locs : List Loc} {cells slots : Nat}
    (X : Stand p l e R s m args below meth c T locs cells slots) (hx : p.tables.exec = Jvm.exec) (hZ : Z.Warmed39 s.vm) {a0 : Array Value} {own : String} {index : Nat} (hown : s.vm.findClass own = some m.cls)
    (w1 : (Cond.methodLink own index Jvm.Stand.acN).before a0 Z = true) (w2 : (Cond.native Jvm.Stand.acN).before a0 Z = true) (w3 : (Cond.static Jvm.Stand.acN).before a0 Z = true) (w4 : (Cond.initialized "java/lang/System").before a0 Z = true) (eT : T.heap = h)
    {z' sp dp nn : Int32} (A : BA Z h a z) (B : BA Z h b z') (h1 : 0 ≤ sp.toInt) (h2 : 0 ≤ dp.toInt) (h3 : 0 ≤ nn.toInt) (h4 : sp.toInt + nn.toInt ≤ z.toInt) (h5 : dp.toInt + nn.toInt ≤ z'.toInt) {n0 : Nat} (N : Fr n0 locs) (ge : n0 ≤ b)
    {g : JFrame} (hg : g.method = m) (hsize : g.locals.size = c.maxLocals) {rest : List Value} (hs : g.stack = .int nn :: .int dp :: .ref b :: .int sp :: .ref a :: rest) (hd : decode c.code g.pc = .ok (.invokestatic index, 3))
    (hf : 1 ≤ R.frames) {W : Nat} (hW : 2 * g.monitorRoom + (rest.map fun v => v.category).sum ≤ W) (hlo : W + (nativeFrameWords "java/lang/System" "arraycopy" 5 + 11) ≤ R.locals) :
    ∃ T' h' L, Stand p l e R s m args below meth c T' L cells slots ∧ T'.heap = h' ∧ Fr n0 L ∧ Keep h h' [b] ∧ BA Z h' b z' ∧
      ∀ target, Steps p.tables e below (T'.setTop { g with pc := g.pc + 3, stack := rest }) target → Steps p.tables e below (T.setTop g) target := by
  have e0 : (0 : Int32).toInt = 0 := rfl
  obtain ⟨k, vs, A⟩ := A
  obtain ⟨k', vd, B⟩ := B
  have B' := B.pad (pad_rep vd (.int 0) z'.toNatClampNeg)
  obtain ⟨T', h', L, X', e', N', K, B2, st⟩ := cpA X hx hZ hown w1 w2 w3 w4 eT A B' (Or.inl ⟨rfl, rfl⟩) (by rw [Int32.lt_iff_toInt_lt]; omega) (by rw [Int32.lt_iff_toInt_lt]; omega) (by rw [Int32.lt_iff_toInt_lt]; omega) (by simp only [Int32.toNatClampNeg]; omega) (by simp only [Int32.toNatClampNeg]; omega) rfl (by simp only [List.length_append, List.length_replicate, Int32.toNatClampNeg]; omega) N ge hg hsize hs hd hf hW hlo
  exact ⟨T', h', L, X', e', N', K, ⟨k', _, B2⟩, st⟩
end AFs
theorem own_selPriv {s : State} {args : Array Value} {y y' : MethodName} (hn : y.cls = y'.cls) (w : (Cond.selects y'.cls y' y').before args s = true) (hpriv : s.PrivateAt y) (hinst : (Cond.instanceMethod y).before args s = true) (hy : y.cls ≠ "java/lang/invoke/MethodHandle" ∧ y.cls ≠ "java/lang/invoke/VarHandle") : (Cond.selects y.cls y y).before args s = true := by
  obtain ⟨c, r, m, h1, -, h3, -, k, h5, h6⟩ := Cond.selects_spec w
  have h7 := findClass_of_methodNamed h3
  cases h1.symm.trans h7
  exact selects_self_of_private (by rw [hn]; exact h7) h5 h6 hpriv hinst hy
theorem own_lremEq (x y : Int64) : x - (x / y) * y = x % y := by
  refine Int64.toInt_inj.mp ?_
  have h1 := rng64 (x % y)
  have e : x.toInt - x.toInt.tdiv y.toInt * y.toInt = (x % y).toInt := by rw [Int64.toInt_mod, Int.tmod_def, Int.mul_comm]
  rw [Int64.toInt_sub, Int64.toInt_mul, Int64.toInt_div, Int.bmod_mul_bmod, Int.sub_bmod_bmod, e]
  exact Int.bmod_eq_of_le_mul_two (by omega) (by omega)
theorem lremM {p : Program} {l : Launch} {e : Env} {R : Room} {s : State} {m : MethodId} {args : Array Value} {below : List Frame} {meth : Method} {c : Code} {T : State} {locs : List Loc} {cells slots : Nat} {g : JFrame} {target : State} (X : Stand p l e R s m args below meth c T locs cells slots) (hx : p.tables.exec = Jvm.exec) (hg : g.method = m) {x y : Int64} {rest : List Value} (hd : decode c.code g.pc = .ok (.lrem, 1)) (hs : g.stack = .long y :: .long x :: rest) (hy : y ≠ 0)
    (hr : Steps p.tables e below (T.setTop { g with pc := g.pc + 1, stack := .long (x % y) :: rest }) target) : Steps p.tables e below (T.setTop g) target :=
  XS.lrem X.here hx hg hd hs hy (by rw [own_lremEq]; exact hr)
/-! comparisons by the numbers -/
theorem tltI {x y : Int32} (h : x.toInt < y.toInt) : if_icmp.holds .lt x y = true ∧ if_icmp.holds .ge x y = false ∧ if_icmp.holds .gt y x = true ∧ if_icmp.holds .le y x = false := tlt (Int32.lt_iff_toInt_lt.mpr h)
theorem fltI {x y : Int32} (h : ¬ x.toInt < y.toInt) : if_icmp.holds .lt x y = false ∧ if_icmp.holds .ge x y = true ∧ if_icmp.holds .gt y x = false ∧ if_icmp.holds .le y x = true := flt (fun q => h (Int32.lt_iff_toInt_lt.mp q))
theorem teqI {x y : Int32} (h : x.toInt = y.toInt) : if_icmp.holds .eq x y = true ∧ if_icmp.holds .ne x y = false := teq (Int32.toInt_inj.mp h)
theorem feqI {x y : Int32} (h : ¬ x.toInt = y.toInt) : if_icmp.holds .eq x y = false ∧ if_icmp.holds .ne x y = true := feq (fun q => h (congrArg _ q))
theorem tltZ {x y : Int32} (h : x.toInt < y.toInt) : (y = 0 → ifCond.holds .lt x = true ∧ ifCond.holds .ge x = false) ∧ (x = 0 → ifCond.holds .gt y = true ∧ ifCond.holds .le y = false) :=
  ⟨fun q => by subst q; exact ⟨(if0 _ _).trans (tltI h).1, (if0 _ _).trans (tltI h).2.1⟩, fun q => by subst q; exact ⟨(if0 _ _).trans (tltI h).2.2.1, (if0 _ _).trans (tltI h).2.2.2⟩⟩
theorem tltL {x y : Int64} (h : x.toInt < y.toInt) : ifCond.holds .lt (lcmpW x y) = true ∧ ifCond.holds .ge (lcmpW x y) = false ∧ ifCond.holds .gt (lcmpW y x) = true ∧ ifCond.holds .le (lcmpW y x) = false :=
  have h' := Int64.lt_iff_toInt_lt.mpr h
  ⟨(if0 _ _).trans (tlt ((lw_lt x y).mpr h')).1, (if0 _ _).trans (tlt ((lw_lt x y).mpr h')).2.1, (if0 _ _).trans (tlt ((lw_gt y x).mpr h')).2.2.1, (if0 _ _).trans (tlt ((lw_gt y x).mpr h')).2.2.2⟩
theorem fltL {x y : Int64} (h : ¬ x.toInt < y.toInt) : ifCond.holds .lt (lcmpW x y) = false ∧ ifCond.holds .ge (lcmpW x y) = true ∧ ifCond.holds .gt (lcmpW y x) = false ∧ ifCond.holds .le (lcmpW y x) = true :=
  have h1 : ¬ lcmpW x y < 0 := fun q => h (Int64.lt_iff_toInt_lt.mp ((lw_lt x y).mp q))
  have h2 : ¬ 0 < lcmpW y x := fun q => h (Int64.lt_iff_toInt_lt.mp ((lw_gt y x).mp q))
  ⟨(if0 _ _).trans (flt h1).1, (if0 _ _).trans (flt h1).2.1, (if0 _ _).trans (flt h2).2.2.1, (if0 _ _).trans (flt h2).2.2.2⟩
theorem teqL {x y : Int64} (h : x.toInt = y.toInt) : ifCond.holds .eq (lcmpW x y) = true ∧ ifCond.holds .ne (lcmpW x y) = false :=
  have h' := (lw_eq x y).mpr (Int64.toInt_inj.mp h)
  ⟨(if0 _ _).trans (teq h').1, (if0 _ _).trans (teq h').2⟩
theorem feqL {x y : Int64} (h : ¬ x.toInt = y.toInt) : ifCond.holds .eq (lcmpW x y) = false ∧ ifCond.holds .ne (lcmpW x y) = true :=
  have h' : ¬ lcmpW x y = 0 := fun q => h (congrArg _ ((lw_eq x y).mp q))
  ⟨(if0 _ _).trans (feq h').1, (if0 _ _).trans (feq h').2⟩
end Jvm.OwnWalk
namespace Jvm.Pilot.@@N@@
open Jvm Jvm.ClassFile Sem Op Lib Jvm.Free Jvm.Stand Jvm.LawKit Jvm.RoadKit Bundle Jvm.OwnWalk Jvm.Pilot.@@N@@.Jvm.D
theorem d1_0 : decode method_3_code 0 = .ok (.iload_n 0, 1) := by decide +kernel
theorem d1_1 : decode method_3_code 1 = .ok (.istore_n 1, 1) := by decide +kernel
theorem d1_2 : decode method_3_code 2 = .ok (.iload_n 1, 1) := by decide +kernel
theorem d1_3 : decode method_3_code 3 = .ok (.bipush 126, 2) := by decide +kernel
theorem d1_5 : decode method_3_code 5 = .ok (.if_icmp .lt 5, 3) := by decide +kernel
theorem d1_8 : decode method_3_code 8 = .ok (.iconst 1, 1) := by decide +kernel
theorem d1_9 : decode method_3_code 9 = .ok (.ireturn, 1) := by decide +kernel
theorem d1_10 : decode method_3_code 10 = .ok (.iload_n 1, 1) := by decide +kernel
theorem d1_11 : decode method_3_code 11 = .ok (.bipush 33, 2) := by decide +kernel
theorem d1_13 : decode method_3_code 13 = .ok (.if_icmp .eq 21, 3) := by decide +kernel
theorem d1_16 : decode method_3_code 16 = .ok (.iload_n 1, 1) := by decide +kernel
theorem d1_17 : decode method_3_code 17 = .ok (.bipush 61, 2) := by decide +kernel
theorem d1_19 : decode method_3_code 19 = .ok (.if_icmp .eq 15, 3) := by decide +kernel
theorem d1_22 : decode method_3_code 22 = .ok (.iload_n 1, 1) := by decide +kernel
theorem d1_23 : decode method_3_code 23 = .ok (.bipush 93, 2) := by decide +kernel
theorem d1_25 : decode method_3_code 25 = .ok (.if_icmp .eq 9, 3) := by decide +kernel
theorem d1_28 : decode method_3_code 28 = .ok (.iload_n 1, 1) := by decide +kernel
theorem d1_29 : decode method_3_code 29 = .ok (.bipush 95, 2) := by decide +kernel
theorem d1_31 : decode method_3_code 31 = .ok (.if_icmp .ne 5, 3) := by decide +kernel
theorem d1_34 : decode method_3_code 34 = .ok (.iconst 1, 1) := by decide +kernel
theorem d1_35 : decode method_3_code 35 = .ok (.ireturn, 1) := by decide +kernel
theorem d1_36 : decode method_3_code 36 = .ok (.iload_n 1, 1) := by decide +kernel
theorem d1_37 : decode method_3_code 37 = .ok (.bipush 35, 2) := by decide +kernel
theorem d1_39 : decode method_3_code 39 = .ok (.if_icmp .lt 11, 3) := by decide +kernel
theorem d1_42 : decode method_3_code 42 = .ok (.iload_n 1, 1) := by decide +kernel
theorem d1_43 : decode method_3_code 43 = .ok (.bipush 59, 2) := by decide +kernel
theorem d1_45 : decode method_3_code 45 = .ok (.if_icmp .gt 5, 3) := by decide +kernel
theorem d1_48 : decode method_3_code 48 = .ok (.iconst 1, 1) := by decide +kernel
theorem d1_49 : decode method_3_code 49 = .ok (.ireturn, 1) := by decide +kernel
theorem d1_50 : decode method_3_code 50 = .ok (.iload_n 1, 1) := by decide +kernel
theorem d1_51 : decode method_3_code 51 = .ok (.bipush 63, 2) := by decide +kernel
theorem d1_53 : decode method_3_code 53 = .ok (.if_icmp .lt 11, 3) := by decide +kernel
theorem d1_56 : decode method_3_code 56 = .ok (.iload_n 1, 1) := by decide +kernel
theorem d1_57 : decode method_3_code 57 = .ok (.bipush 91, 2) := by decide +kernel
theorem d1_59 : decode method_3_code 59 = .ok (.if_icmp .gt 5, 3) := by decide +kernel
theorem d1_62 : decode method_3_code 62 = .ok (.iconst 1, 1) := by decide +kernel
theorem d1_63 : decode method_3_code 63 = .ok (.ireturn, 1) := by decide +kernel
theorem d1_64 : decode method_3_code 64 = .ok (.iload_n 1, 1) := by decide +kernel
theorem d1_65 : decode method_3_code 65 = .ok (.bipush 97, 2) := by decide +kernel
theorem d1_67 : decode method_3_code 67 = .ok (.if_icmp .lt 11, 3) := by decide +kernel
theorem d1_70 : decode method_3_code 70 = .ok (.iload_n 1, 1) := by decide +kernel
theorem d1_71 : decode method_3_code 71 = .ok (.bipush 122, 2) := by decide +kernel
theorem d1_73 : decode method_3_code 73 = .ok (.if_icmp .gt 5, 3) := by decide +kernel
theorem d1_76 : decode method_3_code 76 = .ok (.iconst 1, 1) := by decide +kernel
theorem d1_77 : decode method_3_code 77 = .ok (.ireturn, 1) := by decide +kernel
theorem d1_78 : decode method_3_code 78 = .ok (.iconst 0, 1) := by decide +kernel
theorem d1_79 : decode method_3_code 79 = .ok (.ireturn, 1) := by decide +kernel
theorem pn_1 : plainName "com/example/sextant/sextant/rdf/IriIsIriCharacterPinLaw" = true := by first | (simp [plainName, overriddenIn]; done) | decide +kernel
theorem ef_1 (m : MethodId) (a : Int32) : entryFrame m #[(.int a)] 2 = mkF m 0 #[.val (.int a), .unset] [] := by first | (simp [entryFrame, mkF, argsToLocals, Value.category]; done) | rfl
def Q1 (Z : State) (a : Int32) (h0 : Heap) (n0 : Nat) (v : Option Value) (h : Heap) (L : List Loc) : Prop := Fr n0 L ∧ h = h0 ∧ (∃ z : Int32, v = some (.int z) ∧ ((z.toInt = 1 ∧ (126 ≤ a.toInt ∨ a.toInt = 33 ∨ a.toInt = 61 ∨ a.toInt = 93 ∨ a.toInt = 95 ∨ (35 ≤ a.toInt ∧ a.toInt ≤ 59) ∨ (63 ≤ a.toInt ∧ a.toInt ≤ 91) ∨ (97 ≤ a.toInt ∧ a.toInt ≤ 122))) ∨ (z.toInt = 0 ∧ ¬ (126 ≤ a.toInt ∨ a.toInt = 33 ∨ a.toInt = 61 ∨ a.toInt = 93 ∨ a.toInt = 95 ∨ (35 ≤ a.toInt ∧ a.toInt ≤ 59) ∨ (63 ≤ a.toInt ∧ a.toInt ≤ 91) ∨ (97 ≤ a.toInt ∧ a.toInt ≤ 122)))))
set_option maxRecDepth 65536 in
set_option maxHeartbeats 40000000 in
theorem rm1 (l : Launch) (Z : State) (a0 : Array Value) (hw : ∀ d ∈ tables_1, d.before a0 Z = true) (ws : List Jvm.Cond) (a : Int32) (h0 : Heap) (n0 : Nat) (Zs : n0 ≤ h0.size) :
    MetFree l (⟨"com/example/sextant/sextant/rdf/IriIsIriCharacterPinLaw", "allowed", "(C)Z"⟩ : MethodName) (head1 (Jvm.Cond.code (⟨"com/example/sextant/sextant/rdf/IriIsIriCharacterPinLaw", "allowed", "(C)Z"⟩ : MethodName) method_3_code 2 (some .boolean) :: ws) ({ frames := 0, cells := 0, slots := 0, locals := 0 } : Room)) (fun as' U => as' = #[(.int a)] ∧ Z.Warmed39 U.vm ∧ U.heap = h0) (fun _ _ _ _ _ => True) (fun _ U o U' => ∃ v L, o = .returned v ∧ Q1 Z a h0 n0 v U'.heap L ∧ FrameEnd U o U' L ({ frames := 0, cells := 0, slots := 0, locals := 0 } : Room).cells ({ frames := 0, cells := 0, slots := 0, locals := 0 } : Room).slots) := by
  refine MetFree.of_bodySF (plainFor_of_name pn_1) hisR ?_
  intro p e s m args below meth c s₁ Bd hml0 hP hK
  obtain ⟨rfl, hZ, hh⟩ := hP
  have hx := Bd.exec
  have hby := Bd.bytes
  have hml : c.maxLocals = 2 := hml0
  have hown : s.vm.findClass "com/example/sextant/sextant/rdf/IriIsIriCharacterPinLaw" = some m.cls := findClass_of_methodNamed Bd.named
  have hnm := (name_of_methodNamed Bd.named Bd.method).1
  have hlk : meth.locks = false := Bd.notSynchronized
  have X0 : Stand p l e ({ frames := 0, cells := 0, slots := 0, locals := 0 } : Room) s m #[(.int a)] below meth c s₁ [] 0 0 := Stand.of_body Bd
  have e0 : s₁.heap = h0 := by rw [← hh, Bd.state]; rfl
  have Nf := Fr.nil n0
  refine (?_ : Win p.tables e below (PostQ s (Q1 Z a h0 n0) ({ frames := 0, cells := 0, slots := 0, locals := 0 } : Room).cells ({ frames := 0, cells := 0, slots := 0, locals := 0 } : Room).slots) (s₁.setTop (entryFrame m #[(.int a)] 2)))
  rw [ef_1]
  show Win p.tables e below _ (s₁.setTop (mkF m 0 #[.val (.int a), .unset] []))
  refine s_iloadN (pc' := 1) X0.here hx (hb hby d1_0) rfl rfl ?_
  refine s_istoreN (pc' := 2) (l' := #[.val (.int a), .val (.int a)]) X0.here hx (hb hby d1_1) rfl rfl ?_
  refine s_iloadN (pc' := 3) X0.here hx (hb hby d1_2) rfl rfl ?_
  refine s_bipush (pc' := 5) (z := (126 : Int32)) X0.here hx (hb hby d1_3) rfl rfl ?_
  by_cases hc5 : (a).toInt < (126 : Int)
  · skip
    refine s_icmpYes (pc' := 10) X0.here hx (hb hby d1_5) (tltI (x := a) (y := (126 : Int32)) hc5).1 (by decide) (by decide) ?_
    refine s_iloadN (pc' := 11) X0.here hx (hb hby d1_10) rfl rfl ?_
    refine s_bipush (pc' := 13) (z := (33 : Int32)) X0.here hx (hb hby d1_11) rfl rfl ?_
    by_cases hc13 : (a).toInt = (33 : Int)
    · skip
      refine s_icmpYes (pc' := 34) X0.here hx (hb hby d1_13) (teqI (x := a) (y := (33 : Int32)) hc13).1 (by decide) (by decide) ?_
      refine s_iconst (pc' := 35) (z := (1 : Int32)) X0.here hx (hb hby d1_34) rfl rfl ?_
      refine winN X0 hx hlk e0 (t := .boolean) Bd.returns (by simp) (hb hby d1_35) (by decide) (by decide) (z' := (1 : Int32)) rfl ?_
      refine ⟨Nf, rfl, _, rfl, Or.inl ⟨rfl, ?_⟩⟩
      omega
    · skip
      refine s_icmpNo (pc' := 16) X0.here hx (hb hby d1_13) rfl (feqI (x := a) (y := (33 : Int32)) hc13).1 ?_
      refine s_iloadN (pc' := 17) X0.here hx (hb hby d1_16) rfl rfl ?_
      refine s_bipush (pc' := 19) (z := (61 : Int32)) X0.here hx (hb hby d1_17) rfl rfl ?_
      by_cases hc19 : (a).toInt = (61 : Int)
      · skip
        refine s_icmpYes (pc' := 34) X0.here hx (hb hby d1_19) (teqI (x := a) (y := (61 : Int32)) hc19).1 (by decide) (by decide) ?_
        refine s_iconst (pc' := 35) (z := (1 : Int32)) X0.here hx (hb hby d1_34) rfl rfl ?_
        refine winN X0 hx hlk e0 (t := .boolean) Bd.returns (by simp) (hb hby d1_35) (by decide) (by decide) (z' := (1 : Int32)) rfl ?_
        refine ⟨Nf, rfl, _, rfl, Or.inl ⟨rfl, ?_⟩⟩
        omega
      · skip
        refine s_icmpNo (pc' := 22) X0.here hx (hb hby d1_19) rfl (feqI (x := a) (y := (61 : Int32)) hc19).1 ?_
        refine s_iloadN (pc' := 23) X0.here hx (hb hby d1_22) rfl rfl ?_
        refine s_bipush (pc' := 25) (z := (93 : Int32)) X0.here hx (hb hby d1_23) rfl rfl ?_
        by_cases hc25 : (a).toInt = (93 : Int)
        · skip
          refine s_icmpYes (pc' := 34) X0.here hx (hb hby d1_25) (teqI (x := a) (y := (93 : Int32)) hc25).1 (by decide) (by decide) ?_
          refine s_iconst (pc' := 35) (z := (1 : Int32)) X0.here hx (hb hby d1_34) rfl rfl ?_
          refine winN X0 hx hlk e0 (t := .boolean) Bd.returns (by simp) (hb hby d1_35) (by decide) (by decide) (z' := (1 : Int32)) rfl ?_
          refine ⟨Nf, rfl, _, rfl, Or.inl ⟨rfl, ?_⟩⟩
          omega
        · skip
          refine s_icmpNo (pc' := 28) X0.here hx (hb hby d1_25) rfl (feqI (x := a) (y := (93 : Int32)) hc25).1 ?_
          refine s_iloadN (pc' := 29) X0.here hx (hb hby d1_28) rfl rfl ?_
          refine s_bipush (pc' := 31) (z := (95 : Int32)) X0.here hx (hb hby d1_29) rfl rfl ?_
          by_cases hc31 : (a).toInt = (95 : Int)
          · skip
            refine s_icmpNo (pc' := 34) X0.here hx (hb hby d1_31) rfl (teqI (x := a) (y := (95 : Int32)) hc31).2 ?_
            refine s_iconst (pc' := 35) (z := (1 : Int32)) X0.here hx (hb hby d1_34) rfl rfl ?_
            refine winN X0 hx hlk e0 (t := .boolean) Bd.returns (by simp) (hb hby d1_35) (by decide) (by decide) (z' := (1 : Int32)) rfl ?_
            refine ⟨Nf, rfl, _, rfl, Or.inl ⟨rfl, ?_⟩⟩
            omega
          · skip
            refine s_icmpYes (pc' := 36) X0.here hx (hb hby d1_31) (feqI (x := a) (y := (95 : Int32)) hc31).2 (by decide) (by decide) ?_
            refine s_iloadN (pc' := 37) X0.here hx (hb hby d1_36) rfl rfl ?_
            refine s_bipush (pc' := 39) (z := (35 : Int32)) X0.here hx (hb hby d1_37) rfl rfl ?_
            by_cases hc39 : (a).toInt < (35 : Int)
            · skip
              refine s_icmpYes (pc' := 50) X0.here hx (hb hby d1_39) (tltI (x := a) (y := (35 : Int32)) hc39).1 (by decide) (by decide) ?_
              refine s_iloadN (pc' := 51) X0.here hx (hb hby d1_50) rfl rfl ?_
              refine s_bipush (pc' := 53) (z := (63 : Int32)) X0.here hx (hb hby d1_51) rfl rfl ?_
              by_cases hc53 : (a).toInt < (63 : Int)
              · skip
                refine s_icmpYes (pc' := 64) X0.here hx (hb hby d1_53) (tltI (x := a) (y := (63 : Int32)) hc53).1 (by decide) (by decide) ?_
                refine s_iloadN (pc' := 65) X0.here hx (hb hby d1_64) rfl rfl ?_
                refine s_bipush (pc' := 67) (z := (97 : Int32)) X0.here hx (hb hby d1_65) rfl rfl ?_
                by_cases hc67 : (a).toInt < (97 : Int)
                · skip
                  refine s_icmpYes (pc' := 78) X0.here hx (hb hby d1_67) (tltI (x := a) (y := (97 : Int32)) hc67).1 (by decide) (by decide) ?_
                  refine s_iconst (pc' := 79) (z := (0 : Int32)) X0.here hx (hb hby d1_78) rfl rfl ?_
                  refine winN X0 hx hlk e0 (t := .boolean) Bd.returns (by simp) (hb hby d1_79) (by decide) (by decide) (z' := (0 : Int32)) rfl ?_
                  refine ⟨Nf, rfl, _, rfl, Or.inr ⟨rfl, ?_⟩⟩
                  omega
                · skip
                  refine s_icmpNo (pc' := 70) X0.here hx (hb hby d1_67) rfl (fltI (x := a) (y := (97 : Int32)) hc67).1 ?_
                  refine s_iloadN (pc' := 71) X0.here hx (hb hby d1_70) rfl rfl ?_
                  refine s_bipush (pc' := 73) (z := (122 : Int32)) X0.here hx (hb hby d1_71) rfl rfl ?_
                  by_cases hc73 : (122 : Int) < (a).toInt
                  · skip
                    refine s_icmpYes (pc' := 78) X0.here hx (hb hby d1_73) (tltI (x := (122 : Int32)) (y := a) hc73).2.2.1 (by decide) (by decide) ?_
                    refine s_iconst (pc' := 79) (z := (0 : Int32)) X0.here hx (hb hby d1_78) rfl rfl ?_
                    refine winN X0 hx hlk e0 (t := .boolean) Bd.returns (by simp) (hb hby d1_79) (by decide) (by decide) (z' := (0 : Int32)) rfl ?_
                    refine ⟨Nf, rfl, _, rfl, Or.inr ⟨rfl, ?_⟩⟩
                    omega
                  · skip
                    refine s_icmpNo (pc' := 76) X0.here hx (hb hby d1_73) rfl (fltI (x := (122 : Int32)) (y := a) hc73).2.2.1 ?_
                    refine s_iconst (pc' := 77) (z := (1 : Int32)) X0.here hx (hb hby d1_76) rfl rfl ?_
                    refine winN X0 hx hlk e0 (t := .boolean) Bd.returns (by simp) (hb hby d1_77) (by decide) (by decide) (z' := (1 : Int32)) rfl ?_
                    refine ⟨Nf, rfl, _, rfl, Or.inl ⟨rfl, ?_⟩⟩
                    omega
              · skip
                refine s_icmpNo (pc' := 56) X0.here hx (hb hby d1_53) rfl (fltI (x := a) (y := (63 : Int32)) hc53).1 ?_
                refine s_iloadN (pc' := 57) X0.here hx (hb hby d1_56) rfl rfl ?_
                refine s_bipush (pc' := 59) (z := (91 : Int32)) X0.here hx (hb hby d1_57) rfl rfl ?_
                by_cases hc59 : (91 : Int) < (a).toInt
                · skip
                  refine s_icmpYes (pc' := 64) X0.here hx (hb hby d1_59) (tltI (x := (91 : Int32)) (y := a) hc59).2.2.1 (by decide) (by decide) ?_
                  refine s_iloadN (pc' := 65) X0.here hx (hb hby d1_64) rfl rfl ?_
                  refine s_bipush (pc' := 67) (z := (97 : Int32)) X0.here hx (hb hby d1_65) rfl rfl ?_
                  by_cases hc67 : (a).toInt < (97 : Int)
                  · skip
                    refine s_icmpYes (pc' := 78) X0.here hx (hb hby d1_67) (tltI (x := a) (y := (97 : Int32)) hc67).1 (by decide) (by decide) ?_
                    refine s_iconst (pc' := 79) (z := (0 : Int32)) X0.here hx (hb hby d1_78) rfl rfl ?_
                    refine winN X0 hx hlk e0 (t := .boolean) Bd.returns (by simp) (hb hby d1_79) (by decide) (by decide) (z' := (0 : Int32)) rfl ?_
                    refine ⟨Nf, rfl, _, rfl, Or.inr ⟨rfl, ?_⟩⟩
                    omega
                  · skip
                    refine s_icmpNo (pc' := 70) X0.here hx (hb hby d1_67) rfl (fltI (x := a) (y := (97 : Int32)) hc67).1 ?_
                    refine s_iloadN (pc' := 71) X0.here hx (hb hby d1_70) rfl rfl ?_
                    refine s_bipush (pc' := 73) (z := (122 : Int32)) X0.here hx (hb hby d1_71) rfl rfl ?_
                    by_cases hc73 : (122 : Int) < (a).toInt
                    · skip
                      refine s_icmpYes (pc' := 78) X0.here hx (hb hby d1_73) (tltI (x := (122 : Int32)) (y := a) hc73).2.2.1 (by decide) (by decide) ?_
                      refine s_iconst (pc' := 79) (z := (0 : Int32)) X0.here hx (hb hby d1_78) rfl rfl ?_
                      refine winN X0 hx hlk e0 (t := .boolean) Bd.returns (by simp) (hb hby d1_79) (by decide) (by decide) (z' := (0 : Int32)) rfl ?_
                      refine ⟨Nf, rfl, _, rfl, Or.inr ⟨rfl, ?_⟩⟩
                      omega
                    · skip
                      refine s_icmpNo (pc' := 76) X0.here hx (hb hby d1_73) rfl (fltI (x := (122 : Int32)) (y := a) hc73).2.2.1 ?_
                      refine s_iconst (pc' := 77) (z := (1 : Int32)) X0.here hx (hb hby d1_76) rfl rfl ?_
                      refine winN X0 hx hlk e0 (t := .boolean) Bd.returns (by simp) (hb hby d1_77) (by decide) (by decide) (z' := (1 : Int32)) rfl ?_
                      refine ⟨Nf, rfl, _, rfl, Or.inl ⟨rfl, ?_⟩⟩
                      omega
                · skip
                  refine s_icmpNo (pc' := 62) X0.here hx (hb hby d1_59) rfl (fltI (x := (91 : Int32)) (y := a) hc59).2.2.1 ?_
                  refine s_iconst (pc' := 63) (z := (1 : Int32)) X0.here hx (hb hby d1_62) rfl rfl ?_
                  refine winN X0 hx hlk e0 (t := .boolean) Bd.returns (by simp) (hb hby d1_63) (by decide) (by decide) (z' := (1 : Int32)) rfl ?_
                  refine ⟨Nf, rfl, _, rfl, Or.inl ⟨rfl, ?_⟩⟩
                  omega
            · skip
              refine s_icmpNo (pc' := 42) X0.here hx (hb hby d1_39) rfl (fltI (x := a) (y := (35 : Int32)) hc39).1 ?_
              refine s_iloadN (pc' := 43) X0.here hx (hb hby d1_42) rfl rfl ?_
              refine s_bipush (pc' := 45) (z := (59 : Int32)) X0.here hx (hb hby d1_43) rfl rfl ?_
              by_cases hc45 : (59 : Int) < (a).toInt
              · skip
                refine s_icmpYes (pc' := 50) X0.here hx (hb hby d1_45) (tltI (x := (59 : Int32)) (y := a) hc45).2.2.1 (by decide) (by decide) ?_
                refine s_iloadN (pc' := 51) X0.here hx (hb hby d1_50) rfl rfl ?_
                refine s_bipush (pc' := 53) (z := (63 : Int32)) X0.here hx (hb hby d1_51) rfl rfl ?_
                by_cases hc53 : (a).toInt < (63 : Int)
                · skip
                  refine s_icmpYes (pc' := 64) X0.here hx (hb hby d1_53) (tltI (x := a) (y := (63 : Int32)) hc53).1 (by decide) (by decide) ?_
                  refine s_iloadN (pc' := 65) X0.here hx (hb hby d1_64) rfl rfl ?_
                  refine s_bipush (pc' := 67) (z := (97 : Int32)) X0.here hx (hb hby d1_65) rfl rfl ?_
                  by_cases hc67 : (a).toInt < (97 : Int)
                  · skip
                    refine s_icmpYes (pc' := 78) X0.here hx (hb hby d1_67) (tltI (x := a) (y := (97 : Int32)) hc67).1 (by decide) (by decide) ?_
                    refine s_iconst (pc' := 79) (z := (0 : Int32)) X0.here hx (hb hby d1_78) rfl rfl ?_
                    refine winN X0 hx hlk e0 (t := .boolean) Bd.returns (by simp) (hb hby d1_79) (by decide) (by decide) (z' := (0 : Int32)) rfl ?_
                    refine ⟨Nf, rfl, _, rfl, Or.inr ⟨rfl, ?_⟩⟩
                    omega
                  · skip
                    refine s_icmpNo (pc' := 70) X0.here hx (hb hby d1_67) rfl (fltI (x := a) (y := (97 : Int32)) hc67).1 ?_
                    refine s_iloadN (pc' := 71) X0.here hx (hb hby d1_70) rfl rfl ?_
                    refine s_bipush (pc' := 73) (z := (122 : Int32)) X0.here hx (hb hby d1_71) rfl rfl ?_
                    by_cases hc73 : (122 : Int) < (a).toInt
                    · skip
                      refine s_icmpYes (pc' := 78) X0.here hx (hb hby d1_73) (tltI (x := (122 : Int32)) (y := a) hc73).2.2.1 (by decide) (by decide) ?_
                      refine s_iconst (pc' := 79) (z := (0 : Int32)) X0.here hx (hb hby d1_78) rfl rfl ?_
                      refine winN X0 hx hlk e0 (t := .boolean) Bd.returns (by simp) (hb hby d1_79) (by decide) (by decide) (z' := (0 : Int32)) rfl ?_
                      refine ⟨Nf, rfl, _, rfl, Or.inr ⟨rfl, ?_⟩⟩
                      omega
                    · skip
                      refine s_icmpNo (pc' := 76) X0.here hx (hb hby d1_73) rfl (fltI (x := (122 : Int32)) (y := a) hc73).2.2.1 ?_
                      refine s_iconst (pc' := 77) (z := (1 : Int32)) X0.here hx (hb hby d1_76) rfl rfl ?_
                      refine winN X0 hx hlk e0 (t := .boolean) Bd.returns (by simp) (hb hby d1_77) (by decide) (by decide) (z' := (1 : Int32)) rfl ?_
                      refine ⟨Nf, rfl, _, rfl, Or.inl ⟨rfl, ?_⟩⟩
                      omega
                · skip
                  refine s_icmpNo (pc' := 56) X0.here hx (hb hby d1_53) rfl (fltI (x := a) (y := (63 : Int32)) hc53).1 ?_
                  refine s_iloadN (pc' := 57) X0.here hx (hb hby d1_56) rfl rfl ?_
                  refine s_bipush (pc' := 59) (z := (91 : Int32)) X0.here hx (hb hby d1_57) rfl rfl ?_
                  by_cases hc59 : (91 : Int) < (a).toInt
                  · skip
                    refine s_icmpYes (pc' := 64) X0.here hx (hb hby d1_59) (tltI (x := (91 : Int32)) (y := a) hc59).2.2.1 (by decide) (by decide) ?_
                    refine s_iloadN (pc' := 65) X0.here hx (hb hby d1_64) rfl rfl ?_
                    refine s_bipush (pc' := 67) (z := (97 : Int32)) X0.here hx (hb hby d1_65) rfl rfl ?_
                    by_cases hc67 : (a).toInt < (97 : Int)
                    · skip
                      refine s_icmpYes (pc' := 78) X0.here hx (hb hby d1_67) (tltI (x := a) (y := (97 : Int32)) hc67).1 (by decide) (by decide) ?_
                      refine s_iconst (pc' := 79) (z := (0 : Int32)) X0.here hx (hb hby d1_78) rfl rfl ?_
                      refine winN X0 hx hlk e0 (t := .boolean) Bd.returns (by simp) (hb hby d1_79) (by decide) (by decide) (z' := (0 : Int32)) rfl ?_
                      refine ⟨Nf, rfl, _, rfl, Or.inr ⟨rfl, ?_⟩⟩
                      omega
                    · skip
                      refine s_icmpNo (pc' := 70) X0.here hx (hb hby d1_67) rfl (fltI (x := a) (y := (97 : Int32)) hc67).1 ?_
                      refine s_iloadN (pc' := 71) X0.here hx (hb hby d1_70) rfl rfl ?_
                      refine s_bipush (pc' := 73) (z := (122 : Int32)) X0.here hx (hb hby d1_71) rfl rfl ?_
                      by_cases hc73 : (122 : Int) < (a).toInt
                      · skip
                        refine s_icmpYes (pc' := 78) X0.here hx (hb hby d1_73) (tltI (x := (122 : Int32)) (y := a) hc73).2.2.1 (by decide) (by decide) ?_
                        refine s_iconst (pc' := 79) (z := (0 : Int32)) X0.here hx (hb hby d1_78) rfl rfl ?_
                        refine winN X0 hx hlk e0 (t := .boolean) Bd.returns (by simp) (hb hby d1_79) (by decide) (by decide) (z' := (0 : Int32)) rfl ?_
                        refine ⟨Nf, rfl, _, rfl, Or.inr ⟨rfl, ?_⟩⟩
                        omega
                      · skip
                        refine s_icmpNo (pc' := 76) X0.here hx (hb hby d1_73) rfl (fltI (x := (122 : Int32)) (y := a) hc73).2.2.1 ?_
                        refine s_iconst (pc' := 77) (z := (1 : Int32)) X0.here hx (hb hby d1_76) rfl rfl ?_
                        refine winN X0 hx hlk e0 (t := .boolean) Bd.returns (by simp) (hb hby d1_77) (by decide) (by decide) (z' := (1 : Int32)) rfl ?_
                        refine ⟨Nf, rfl, _, rfl, Or.inl ⟨rfl, ?_⟩⟩
                        omega
                  · skip
                    refine s_icmpNo (pc' := 62) X0.here hx (hb hby d1_59) rfl (fltI (x := (91 : Int32)) (y := a) hc59).2.2.1 ?_
                    refine s_iconst (pc' := 63) (z := (1 : Int32)) X0.here hx (hb hby d1_62) rfl rfl ?_
                    refine winN X0 hx hlk e0 (t := .boolean) Bd.returns (by simp) (hb hby d1_63) (by decide) (by decide) (z' := (1 : Int32)) rfl ?_
                    refine ⟨Nf, rfl, _, rfl, Or.inl ⟨rfl, ?_⟩⟩
                    omega
              · skip
                refine s_icmpNo (pc' := 48) X0.here hx (hb hby d1_45) rfl (fltI (x := (59 : Int32)) (y := a) hc45).2.2.1 ?_
                refine s_iconst (pc' := 49) (z := (1 : Int32)) X0.here hx (hb hby d1_48) rfl rfl ?_
                refine winN X0 hx hlk e0 (t := .boolean) Bd.returns (by simp) (hb hby d1_49) (by decide) (by decide) (z' := (1 : Int32)) rfl ?_
                refine ⟨Nf, rfl, _, rfl, Or.inl ⟨rfl, ?_⟩⟩
                omega
  · skip
    refine s_icmpNo (pc' := 8) X0.here hx (hb hby d1_5) rfl (fltI (x := a) (y := (126 : Int32)) hc5).1 ?_
    refine s_iconst (pc' := 9) (z := (1 : Int32)) X0.here hx (hb hby d1_8) rfl rfl ?_
    refine winN X0 hx hlk e0 (t := .boolean) Bd.returns (by simp) (hb hby d1_9) (by decide) (by decide) (z' := (1 : Int32)) rfl ?_
    refine ⟨Nf, rfl, _, rfl, Or.inl ⟨rfl, ?_⟩⟩
    omega
theorem d2_0 : decode prog_22_method_13_code 0 = .ok (.iload_n 0, 1) := by decide +kernel
theorem d2_1 : decode prog_22_method_13_code 1 = .ok (.bipush 32, 2) := by decide +kernel
theorem d2_3 : decode prog_22_method_13_code 3 = .ok (.if_icmp .gt 5, 3) := by decide +kernel
theorem d2_6 : decode prog_22_method_13_code 6 = .ok (.iconst 0, 1) := by decide +kernel
theorem d2_7 : decode prog_22_method_13_code 7 = .ok (.ireturn, 1) := by decide +kernel
theorem d2_8 : decode prog_22_method_13_code 8 = .ok (.iload_n 0, 1) := by decide +kernel
theorem d2_9 : decode prog_22_method_13_code 9 = .ok (.lookupswitch 85 #[(34, 83), (60, 83), (62, 83), (92, 83), (94, 83), (96, 83), (123, 83), (124, 83), (125, 83)], 83) := by decide +kernel
theorem d2_92 : decode prog_22_method_13_code 92 = .ok (.iconst 0, 1) := by decide +kernel
theorem d2_93 : decode prog_22_method_13_code 93 = .ok (.ireturn, 1) := by decide +kernel
theorem d2_94 : decode prog_22_method_13_code 94 = .ok (.iconst 1, 1) := by decide +kernel
theorem d2_95 : decode prog_22_method_13_code 95 = .ok (.ireturn, 1) := by decide +kernel
theorem pn_2 : plainName "com/example/sextant/sextant/rdf/Iri" = true := by first | (simp [plainName, overriddenIn]; done) | decide +kernel
theorem ef_2 (m : MethodId) (a : Int32) : entryFrame m #[(.int a)] 1 = mkF m 0 #[.val (.int a)] [] := by first | (simp [entryFrame, mkF, argsToLocals, Value.category]; done) | rfl
def Q2 (Z : State) (a : Int32) (h0 : Heap) (n0 : Nat) (v : Option Value) (h : Heap) (L : List Loc) : Prop := Fr n0 L ∧ h = h0 ∧ (∃ z : Int32, v = some (.int z) ∧ ((z.toInt = 1 ∧ (126 ≤ a.toInt ∨ a.toInt = 33 ∨ a.toInt = 61 ∨ a.toInt = 93 ∨ a.toInt = 95 ∨ (35 ≤ a.toInt ∧ a.toInt ≤ 59) ∨ (63 ≤ a.toInt ∧ a.toInt ≤ 91) ∨ (97 ≤ a.toInt ∧ a.toInt ≤ 122))) ∨ (z.toInt = 0 ∧ ¬ (126 ≤ a.toInt ∨ a.toInt = 33 ∨ a.toInt = 61 ∨ a.toInt = 93 ∨ a.toInt = 95 ∨ (35 ≤ a.toInt ∧ a.toInt ≤ 59) ∨ (63 ≤ a.toInt ∧ a.toInt ≤ 91) ∨ (97 ≤ a.toInt ∧ a.toInt ≤ 122)))))
set_option maxRecDepth 65536 in
set_option maxHeartbeats 40000000 in
theorem rm2 (l : Launch) (Z : State) (a0 : Array Value) (hw : ∀ d ∈ tables_1, d.before a0 Z = true) (ws : List Jvm.Cond) (a : Int32) (h0 : Heap) (n0 : Nat) (Zs : n0 ≤ h0.size) :
    MetFree l (⟨"com/example/sextant/sextant/rdf/Iri", "isIriCharacter", "(C)Z"⟩ : MethodName) (head1 (Jvm.Cond.code (⟨"com/example/sextant/sextant/rdf/Iri", "isIriCharacter", "(C)Z"⟩ : MethodName) prog_22_method_13_code 1 (some .boolean) :: ws) ({ frames := 0, cells := 0, slots := 0, locals := 0 } : Room)) (fun as' U => as' = #[(.int a)] ∧ Z.Warmed39 U.vm ∧ U.heap = h0) (fun _ _ _ _ _ => True) (fun _ U o U' => ∃ v L, o = .returned v ∧ Q2 Z a h0 n0 v U'.heap L ∧ FrameEnd U o U' L ({ frames := 0, cells := 0, slots := 0, locals := 0 } : Room).cells ({ frames := 0, cells := 0, slots := 0, locals := 0 } : Room).slots) := by
  refine MetFree.of_bodySF (plainFor_of_name pn_2) hisR ?_
  intro p e s m args below meth c s₁ Bd hml0 hP hK
  obtain ⟨rfl, hZ, hh⟩ := hP
  have hx := Bd.exec
  have hby := Bd.bytes
  have hml : c.maxLocals = 1 := hml0
  have hown : s.vm.findClass "com/example/sextant/sextant/rdf/Iri" = some m.cls := findClass_of_methodNamed Bd.named
  have hnm := (name_of_methodNamed Bd.named Bd.method).1
  have hlk : meth.locks = false := Bd.notSynchronized
  have X0 : Stand p l e ({ frames := 0, cells := 0, slots := 0, locals := 0 } : Room) s m #[(.int a)] below meth c s₁ [] 0 0 := Stand.of_body Bd
  have e0 : s₁.heap = h0 := by rw [← hh, Bd.state]; rfl
  have Nf := Fr.nil n0
  refine (?_ : Win p.tables e below (PostQ s (Q2 Z a h0 n0) ({ frames := 0, cells := 0, slots := 0, locals := 0 } : Room).cells ({ frames := 0, cells := 0, slots := 0, locals := 0 } : Room).slots) (s₁.setTop (entryFrame m #[(.int a)] 1)))
  rw [ef_2]
  show Win p.tables e below _ (s₁.setTop (mkF m 0 #[.val (.int a)] []))
  refine s_iloadN (pc' := 1) X0.here hx (hb hby d2_0) rfl rfl ?_
  refine s_bipush (pc' := 3) (z := (32 : Int32)) X0.here hx (hb hby d2_1) rfl rfl ?_
  by_cases hc3 : (32 : Int) < (a).toInt
  · skip
    refine s_icmpYes (pc' := 8) X0.here hx (hb hby d2_3) (tltI (x := (32 : Int32)) (y := a) hc3).2.2.1 (by decide) (by decide) ?_
    refine s_iloadN (pc' := 9) X0.here hx (hb hby d2_8) rfl rfl ?_
    by_cases hs9_34 : (a).toInt = 34
    · skip
      refine Win.go (fun _ k => X0.lookupswitchHit hx (g := (mkF m 9 #[.val (.int a)] [(.int a)])) rfl rfl (hb hby d2_9) (by decide) (a := 34) (off := 83) (by rw [hs9_34]; decide) (show (0 : Int) ≤ ((9 : Nat) : Int) + 83 from by decide) _ k) ?_
      show Win p.tables e below _ (s₁.setTop (mkF m 92 #[.val (.int a)] []))
      refine s_iconst (pc' := 93) (z := (0 : Int32)) X0.here hx (hb hby d2_92) rfl rfl ?_
      refine winN X0 hx hlk e0 (t := .boolean) Bd.returns (by simp) (hb hby d2_93) (by decide) (by decide) (z' := (0 : Int32)) rfl ?_
      refine ⟨Nf, rfl, _, rfl, Or.inr ⟨rfl, ?_⟩⟩
      omega
    · skip
      by_cases hs9_60 : (a).toInt = 60
      · skip
        refine Win.go (fun _ k => X0.lookupswitchHit hx (g := (mkF m 9 #[.val (.int a)] [(.int a)])) rfl rfl (hb hby d2_9) (by decide) (a := 60) (off := 83) (by rw [hs9_60]; decide) (show (0 : Int) ≤ ((9 : Nat) : Int) + 83 from by decide) _ k) ?_
        show Win p.tables e below _ (s₁.setTop (mkF m 92 #[.val (.int a)] []))
        refine s_iconst (pc' := 93) (z := (0 : Int32)) X0.here hx (hb hby d2_92) rfl rfl ?_
        refine winN X0 hx hlk e0 (t := .boolean) Bd.returns (by simp) (hb hby d2_93) (by decide) (by decide) (z' := (0 : Int32)) rfl ?_
        refine ⟨Nf, rfl, _, rfl, Or.inr ⟨rfl, ?_⟩⟩
        omega
      · skip
        by_cases hs9_62 : (a).toInt = 62
        · skip
          refine Win.go (fun _ k => X0.lookupswitchHit hx (g := (mkF m 9 #[.val (.int a)] [(.int a)])) rfl rfl (hb hby d2_9) (by decide) (a := 62) (off := 83) (by rw [hs9_62]; decide) (show (0 : Int) ≤ ((9 : Nat) : Int) + 83 from by decide) _ k) ?_
          show Win p.tables e below _ (s₁.setTop (mkF m 92 #[.val (.int a)] []))
          refine s_iconst (pc' := 93) (z := (0 : Int32)) X0.here hx (hb hby d2_92) rfl rfl ?_
          refine winN X0 hx hlk e0 (t := .boolean) Bd.returns (by simp) (hb hby d2_93) (by decide) (by decide) (z' := (0 : Int32)) rfl ?_
          refine ⟨Nf, rfl, _, rfl, Or.inr ⟨rfl, ?_⟩⟩
          omega
        · skip
          by_cases hs9_92 : (a).toInt = 92
          · skip
            refine Win.go (fun _ k => X0.lookupswitchHit hx (g := (mkF m 9 #[.val (.int a)] [(.int a)])) rfl rfl (hb hby d2_9) (by decide) (a := 92) (off := 83) (by rw [hs9_92]; decide) (show (0 : Int) ≤ ((9 : Nat) : Int) + 83 from by decide) _ k) ?_
            show Win p.tables e below _ (s₁.setTop (mkF m 92 #[.val (.int a)] []))
            refine s_iconst (pc' := 93) (z := (0 : Int32)) X0.here hx (hb hby d2_92) rfl rfl ?_
            refine winN X0 hx hlk e0 (t := .boolean) Bd.returns (by simp) (hb hby d2_93) (by decide) (by decide) (z' := (0 : Int32)) rfl ?_
            refine ⟨Nf, rfl, _, rfl, Or.inr ⟨rfl, ?_⟩⟩
            omega
          · skip
            by_cases hs9_94 : (a).toInt = 94
            · skip
              refine Win.go (fun _ k => X0.lookupswitchHit hx (g := (mkF m 9 #[.val (.int a)] [(.int a)])) rfl rfl (hb hby d2_9) (by decide) (a := 94) (off := 83) (by rw [hs9_94]; decide) (show (0 : Int) ≤ ((9 : Nat) : Int) + 83 from by decide) _ k) ?_
              show Win p.tables e below _ (s₁.setTop (mkF m 92 #[.val (.int a)] []))
              refine s_iconst (pc' := 93) (z := (0 : Int32)) X0.here hx (hb hby d2_92) rfl rfl ?_
              refine winN X0 hx hlk e0 (t := .boolean) Bd.returns (by simp) (hb hby d2_93) (by decide) (by decide) (z' := (0 : Int32)) rfl ?_
              refine ⟨Nf, rfl, _, rfl, Or.inr ⟨rfl, ?_⟩⟩
              omega
            · skip
              by_cases hs9_96 : (a).toInt = 96
              · skip
                refine Win.go (fun _ k => X0.lookupswitchHit hx (g := (mkF m 9 #[.val (.int a)] [(.int a)])) rfl rfl (hb hby d2_9) (by decide) (a := 96) (off := 83) (by rw [hs9_96]; decide) (show (0 : Int) ≤ ((9 : Nat) : Int) + 83 from by decide) _ k) ?_
                show Win p.tables e below _ (s₁.setTop (mkF m 92 #[.val (.int a)] []))
                refine s_iconst (pc' := 93) (z := (0 : Int32)) X0.here hx (hb hby d2_92) rfl rfl ?_
                refine winN X0 hx hlk e0 (t := .boolean) Bd.returns (by simp) (hb hby d2_93) (by decide) (by decide) (z' := (0 : Int32)) rfl ?_
                refine ⟨Nf, rfl, _, rfl, Or.inr ⟨rfl, ?_⟩⟩
                omega
              · skip
                by_cases hs9_123 : (a).toInt = 123
                · skip
                  refine Win.go (fun _ k => X0.lookupswitchHit hx (g := (mkF m 9 #[.val (.int a)] [(.int a)])) rfl rfl (hb hby d2_9) (by decide) (a := 123) (off := 83) (by rw [hs9_123]; decide) (show (0 : Int) ≤ ((9 : Nat) : Int) + 83 from by decide) _ k) ?_
                  show Win p.tables e below _ (s₁.setTop (mkF m 92 #[.val (.int a)] []))
                  refine s_iconst (pc' := 93) (z := (0 : Int32)) X0.here hx (hb hby d2_92) rfl rfl ?_
                  refine winN X0 hx hlk e0 (t := .boolean) Bd.returns (by simp) (hb hby d2_93) (by decide) (by decide) (z' := (0 : Int32)) rfl ?_
                  refine ⟨Nf, rfl, _, rfl, Or.inr ⟨rfl, ?_⟩⟩
                  omega
                · skip
                  by_cases hs9_124 : (a).toInt = 124
                  · skip
                    refine Win.go (fun _ k => X0.lookupswitchHit hx (g := (mkF m 9 #[.val (.int a)] [(.int a)])) rfl rfl (hb hby d2_9) (by decide) (a := 124) (off := 83) (by rw [hs9_124]; decide) (show (0 : Int) ≤ ((9 : Nat) : Int) + 83 from by decide) _ k) ?_
                    show Win p.tables e below _ (s₁.setTop (mkF m 92 #[.val (.int a)] []))
                    refine s_iconst (pc' := 93) (z := (0 : Int32)) X0.here hx (hb hby d2_92) rfl rfl ?_
                    refine winN X0 hx hlk e0 (t := .boolean) Bd.returns (by simp) (hb hby d2_93) (by decide) (by decide) (z' := (0 : Int32)) rfl ?_
                    refine ⟨Nf, rfl, _, rfl, Or.inr ⟨rfl, ?_⟩⟩
                    omega
                  · skip
                    by_cases hs9_125 : (a).toInt = 125
                    · skip
                      refine Win.go (fun _ k => X0.lookupswitchHit hx (g := (mkF m 9 #[.val (.int a)] [(.int a)])) rfl rfl (hb hby d2_9) (by decide) (a := 125) (off := 83) (by rw [hs9_125]; decide) (show (0 : Int) ≤ ((9 : Nat) : Int) + 83 from by decide) _ k) ?_
                      show Win p.tables e below _ (s₁.setTop (mkF m 92 #[.val (.int a)] []))
                      refine s_iconst (pc' := 93) (z := (0 : Int32)) X0.here hx (hb hby d2_92) rfl rfl ?_
                      refine winN X0 hx hlk e0 (t := .boolean) Bd.returns (by simp) (hb hby d2_93) (by decide) (by decide) (z' := (0 : Int32)) rfl ?_
                      refine ⟨Nf, rfl, _, rfl, Or.inr ⟨rfl, ?_⟩⟩
                      omega
                    · skip
                      refine Win.go (fun _ k => X0.lookupswitchMiss hx (g := (mkF m 9 #[.val (.int a)] [(.int a)])) rfl rfl (hb hby d2_9) (by decide) (find_miss (by simp; omega)) (show (0 : Int) ≤ ((9 : Nat) : Int) + 85 from by decide) _ k) ?_
                      show Win p.tables e below _ (s₁.setTop (mkF m 94 #[.val (.int a)] []))
                      refine s_iconst (pc' := 95) (z := (1 : Int32)) X0.here hx (hb hby d2_94) rfl rfl ?_
                      refine winN X0 hx hlk e0 (t := .boolean) Bd.returns (by simp) (hb hby d2_95) (by decide) (by decide) (z' := (1 : Int32)) rfl ?_
                      refine ⟨Nf, rfl, _, rfl, Or.inl ⟨rfl, ?_⟩⟩
                      omega
  · skip
    refine s_icmpNo (pc' := 6) X0.here hx (hb hby d2_3) rfl (fltI (x := (32 : Int32)) (y := a) hc3).2.2.1 ?_
    refine s_iconst (pc' := 7) (z := (0 : Int32)) X0.here hx (hb hby d2_6) rfl rfl ?_
    refine winN X0 hx hlk e0 (t := .boolean) Bd.returns (by simp) (hb hby d2_7) (by decide) (by decide) (z' := (0 : Int32)) rfl ?_
    refine ⟨Nf, rfl, _, rfl, Or.inr ⟨rfl, ?_⟩⟩
    omega
theorem pd_0 : parseMethodDescriptor "(C)Z" = some ⟨[.char], some .boolean⟩ := by decide +kernel
theorem ef_0 (m : MethodId) (c0 : Int32) (k0 : Int32) : entryFrame m #[(.int c0), (.int k0)] maxLocals = mkF m 0 #[.val (.int c0), .val (.int k0), .unset, .unset] [] := by first | (simp [entryFrame, mkF, argsToLocals, Value.category, maxLocals]; done) | rfl
def Q0 (Z : State) (c0 : Int32) (k0 : Int32) (h0 : Heap) (n0 : Nat) (v : Option Value) (h : Heap) (L : List Loc) : Prop := Fr n0 L ∧ v = some (.int 1)
set_option maxRecDepth 65536 in
set_option maxHeartbeats 40000000 in
theorem rm0 (l : Launch) (Z : State) (a0 : Array Value) (hw : ∀ d ∈ tables_1, d.before a0 Z = true) (ws : List Jvm.Cond) (c0 : Int32) (k0 : Int32) (h0 : Heap) (n0 : Nat) (Zs : n0 ≤ h0.size) :
    MetFree l x (head1 (Jvm.Cond.code x code maxLocals ret :: ws) room_1) (fun as' U => as' = #[(.int c0), (.int k0)] ∧ Z.Warmed39 U.vm ∧ U.heap = h0) (fun _ _ _ _ _ => True) (fun _ U o U' => ∃ v L, o = .returned v ∧ Q0 Z c0 k0 h0 n0 v U'.heap L ∧ FrameEnd U o U' L room_1.cells room_1.slots) := by
  refine MetFree.of_bodySF (plainFor_of_name pn_1) hisR ?_
  intro p e s m args below meth c s₁ Bd hml0 hP hK
  obtain ⟨rfl, hZ, hh⟩ := hP
  have hx := Bd.exec
  have hby := Bd.bytes
  have hml : c.maxLocals = 4 := hml0
  have hown : s.vm.findClass "com/example/sextant/sextant/rdf/IriIsIriCharacterPinLaw" = some m.cls := findClass_of_methodNamed Bd.named
  have hnm := (name_of_methodNamed Bd.named Bd.method).1
  have hlk : meth.locks = false := Bd.notSynchronized
  have X0 : Stand p l e room_1 s m #[(.int c0), (.int k0)] below meth c s₁ [] 0 0 := Stand.of_body Bd
  have e0 : s₁.heap = h0 := by rw [← hh, Bd.state]; rfl
  have Nf := Fr.nil n0
  refine (?_ : Win p.tables e below (PostQ s (Q0 Z c0 k0 h0 n0) room_1.cells room_1.slots) (s₁.setTop (entryFrame m #[(.int c0), (.int k0)] maxLocals)))
  rw [ef_0]
  show Win p.tables e below _ (s₁.setTop (mkF m 0 #[.val (.int c0), .val (.int k0), .unset, .unset] []))
  refine s_iloadN (pc' := 1) X0.here hx (hb hby at_0) rfl rfl ?_
  refine s_iconst (pc' := 2) (z := (1 : Int32)) X0.here hx (hb hby at_1) rfl rfl ?_
  refine s_iand (pc' := 3) X0.here hx (hb hby at_2) rfl ?_
  by_cases hc3 : ((k0 &&& (1 : Int32))).toInt = (0 : Int)
  · skip
    refine s_ifYes (pc' := 14) X0.here hx (hb hby at_3) ((if0 _ _).trans (teqI (x := (k0 &&& (1 : Int32))) (y := (0 : Int32)) hc3).1) (by decide) (by decide) ?_
    refine s_iloadN (pc' := 15) X0.here hx (hb hby at_14) rfl rfl ?_
    refine Win.go (fun _ k => XS.i2c X0.here hx rfl (hb hby at_15) rfl k) ?_
    show Win p.tables e below _ (s₁.setTop (mkF m 16 #[.val (.int c0), .val (.int k0), .unset, .unset] [(.int (c0.toUInt32.toUInt16.toUInt32.toInt32))]))
    refine s_istoreN (pc' := 17) (l' := #[.val (.int c0), .val (.int k0), .val (.int (c0.toUInt32.toUInt16.toUInt32.toInt32)), .unset]) X0.here hx (hb hby at_16) rfl rfl ?_
    generalize hch : (c0.toUInt32.toUInt16.toUInt32.toInt32) = ch
    show Win p.tables e below _ (s₁.setTop (mkF m 17 #[.val (.int c0), .val (.int k0), .val (.int ch), .unset] []))
    refine s_iloadN (pc' := 18) X0.here hx (hb hby at_17) rfl rfl ?_
    obtain ⟨_, _, ⟨T_1, L_1, k_1, n_1⟩, -, X_1, ⟨Lc_1, hQ_1, l_1, y_1, z_1⟩, st_1⟩ := Jvm.LawKit.callS X0 hx (y := (⟨"com/example/sextant/sextant/rdf/IriIsIriCharacterPinLaw", "allowed", "(C)Z"⟩ : MethodName)) hown (mvT hZ (hw _ (List.mem_of_getElem? (i := 0) rfl))) (mvT hZ (hw _ (List.mem_of_getElem? (i := 1) rfl))) (mvT hZ (hw _ (List.mem_of_getElem? (i := 2) rfl))) (mvT hZ (hw _ (List.mem_of_getElem? (i := 3) rfl))) (by decide) (backOf (W := 0) (rm1 l Z a0 hw [] ch h0 n0 Zs ) hZ (hw _ (List.mem_of_getElem? (i := 3) rfl)) (hw _ (List.mem_of_getElem? (i := 2) rfl)) (by decide) (by decide)) (g := (mkF m 18 #[.val (.int c0), .val (.int k0), .val (.int ch), .unset] [(.int ch)])) rfl (by rw [hml]; rfl) (argsL := [(.int ch)]) (rest := []) (lenOf pd_0 rfl) rfl (by show 2 * 0 + _ ≤ _; exact Nat.le_of_eq rfl) (hb hby at_18) (fun _ _ => ⟨rfl, e0, (by decide : 0 + 0 ≤ _), (by decide : 0 + 0 ≤ _)⟩)
    dsimp only [Pt.U, Pt.locs, Pt.cells, Pt.slots] at X_1 l_1 y_1 z_1 st_1 hQ_1
    subst l_1 y_1 z_1
    obtain ⟨Nq_1, e_1, r1, rfl, hr1⟩ := hQ_1
    replace Nf := Fr.app Nf Nq_1
    refine Win.go st_1 ?_
    show Win p.tables e below _ (T_1.setTop (mkF m 21 #[.val (.int c0), .val (.int k0), .val (.int ch), .unset] [(.int r1)]))
    refine s_istoreN (pc' := 22) (l' := #[.val (.int c0), .val (.int k0), .val (.int ch), .val (.int r1)]) X_1.here hx (hb hby at_21) rfl rfl ?_
    refine s_iloadN (pc' := 23) X_1.here hx (hb hby at_22) rfl rfl ?_
    obtain ⟨_, _, ⟨T_2, L_2, k_2, n_2⟩, -, X_2, ⟨Lc_2, hQ_2, l_2, y_2, z_2⟩, st_2⟩ := Jvm.LawKit.callS X_1 hx (y := (⟨"com/example/sextant/sextant/rdf/Iri", "isIriCharacter", "(C)Z"⟩ : MethodName)) hown (mvT hZ (hw _ (List.mem_of_getElem? (i := 4) rfl))) (mvT hZ (hw _ (List.mem_of_getElem? (i := 5) rfl))) (mvT hZ (hw _ (List.mem_of_getElem? (i := 6) rfl))) (mvT hZ (hw _ (List.mem_of_getElem? (i := 7) rfl))) (by decide) (backOf (W := 0) (rm2 l Z a0 hw [] ch h0 n0 Zs ) hZ (hw _ (List.mem_of_getElem? (i := 7) rfl)) (hw _ (List.mem_of_getElem? (i := 6) rfl)) (by decide) (by decide)) (g := (mkF m 23 #[.val (.int c0), .val (.int k0), .val (.int ch), .val (.int r1)] [(.int ch)])) rfl (by rw [hml]; rfl) (argsL := [(.int ch)]) (rest := []) (lenOf pd_0 rfl) rfl (by show 2 * 0 + _ ≤ _; exact Nat.le_of_eq rfl) (hb hby at_23) (fun _ _ => ⟨rfl, e_1, (by decide : 0 + 0 ≤ _), (by decide : 0 + 0 ≤ _)⟩)
    dsimp only [Pt.U, Pt.locs, Pt.cells, Pt.slots] at X_2 l_2 y_2 z_2 st_2 hQ_2
    subst l_2 y_2 z_2
    obtain ⟨Nq_2, e_2, r2, rfl, hr2⟩ := hQ_2
    replace Nf := Fr.app Nf Nq_2
    refine Win.go st_2 ?_
    show Win p.tables e below _ (T_2.setTop (mkF m 26 #[.val (.int c0), .val (.int k0), .val (.int ch), .val (.int r1)] [(.int r2)]))
    refine s_iloadN (pc' := 27) X_2.here hx (hb hby at_26) rfl rfl ?_
    by_cases hc27 : (r2).toInt = (r1).toInt
    · skip
      refine s_icmpNo (pc' := 30) X_2.here hx (hb hby at_27) rfl (teqI (x := r2) (y := r1) hc27).2 ?_
      refine s_iconst (pc' := 31) (z := (1 : Int32)) X_2.here hx (hb hby at_30) rfl rfl ?_
      refine s_goto (pc' := 35) X_2.here hx (hb hby at_31) (by decide) (by decide) ?_
      refine winN X_2 hx hlk e_2 (t := .boolean) Bd.returns (by simp) (hb hby at_35) (by decide) (by decide) (z' := 1) rfl ⟨Nf, rfl⟩
    · skip
      refine s_icmpYes (pc' := 34) X_2.here hx (hb hby at_27) (feqI (x := r2) (y := r1) hc27).2 (by decide) (by decide) ?_
      refine s_iconst (pc' := 35) (z := (0 : Int32)) X_2.here hx (hb hby at_34) rfl rfl ?_
      exfalso
      omega
  · skip
    refine s_ifNo (pc' := 6) X0.here hx (hb hby at_3) rfl ((if0 _ _).trans (feqI (x := (k0 &&& (1 : Int32))) (y := (0 : Int32)) hc3).1) ?_
    refine s_iloadN (pc' := 7) X0.here hx (hb hby at_6) rfl rfl ?_
    refine s_bipush (pc' := 9) (z := (127 : Int32)) X0.here hx (hb hby at_7) rfl rfl ?_
    refine s_iand (pc' := 10) X0.here hx (hb hby at_9) rfl ?_
    refine Win.go (fun _ k => XS.i2c X0.here hx rfl (hb hby at_10) rfl k) ?_
    show Win p.tables e below _ (s₁.setTop (mkF m 11 #[.val (.int c0), .val (.int k0), .unset, .unset] [(.int ((c0 &&& (127 : Int32)).toUInt32.toUInt16.toUInt32.toInt32))]))
    refine s_goto (pc' := 16) X0.here hx (hb hby at_11) (by decide) (by decide) ?_
    refine s_istoreN (pc' := 17) (l' := #[.val (.int c0), .val (.int k0), .val (.int ((c0 &&& (127 : Int32)).toUInt32.toUInt16.toUInt32.toInt32)), .unset]) X0.here hx (hb hby at_16) rfl rfl ?_
    generalize hch : ((c0 &&& (127 : Int32)).toUInt32.toUInt16.toUInt32.toInt32) = ch
    show Win p.tables e below _ (s₁.setTop (mkF m 17 #[.val (.int c0), .val (.int k0), .val (.int ch), .unset] []))
    refine s_iloadN (pc' := 18) X0.here hx (hb hby at_17) rfl rfl ?_
    obtain ⟨_, _, ⟨T_3, L_3, k_3, n_3⟩, -, X_3, ⟨Lc_3, hQ_3, l_3, y_3, z_3⟩, st_3⟩ := Jvm.LawKit.callS X0 hx (y := (⟨"com/example/sextant/sextant/rdf/IriIsIriCharacterPinLaw", "allowed", "(C)Z"⟩ : MethodName)) hown (mvT hZ (hw _ (List.mem_of_getElem? (i := 0) rfl))) (mvT hZ (hw _ (List.mem_of_getElem? (i := 1) rfl))) (mvT hZ (hw _ (List.mem_of_getElem? (i := 2) rfl))) (mvT hZ (hw _ (List.mem_of_getElem? (i := 3) rfl))) (by decide) (backOf (W := 0) (rm1 l Z a0 hw [] ch h0 n0 Zs ) hZ (hw _ (List.mem_of_getElem? (i := 3) rfl)) (hw _ (List.mem_of_getElem? (i := 2) rfl)) (by decide) (by decide)) (g := (mkF m 18 #[.val (.int c0), .val (.int k0), .val (.int ch), .unset] [(.int ch)])) rfl (by rw [hml]; rfl) (argsL := [(.int ch)]) (rest := []) (lenOf pd_0 rfl) rfl (by show 2 * 0 + _ ≤ _; exact Nat.le_of_eq rfl) (hb hby at_18) (fun _ _ => ⟨rfl, e0, (by decide : 0 + 0 ≤ _), (by decide : 0 + 0 ≤ _)⟩)
    dsimp only [Pt.U, Pt.locs, Pt.cells, Pt.slots] at X_3 l_3 y_3 z_3 st_3 hQ_3
    subst l_3 y_3 z_3
    obtain ⟨Nq_3, e_3, r1, rfl, hr1⟩ := hQ_3
    replace Nf := Fr.app Nf Nq_3
    refine Win.go st_3 ?_
    show Win p.tables e below _ (T_3.setTop (mkF m 21 #[.val (.int c0), .val (.int k0), .val (.int ch), .unset] [(.int r1)]))
    refine s_istoreN (pc' := 22) (l' := #[.val (.int c0), .val (.int k0), .val (.int ch), .val (.int r1)]) X_3.here hx (hb hby at_21) rfl rfl ?_
    refine s_iloadN (pc' := 23) X_3.here hx (hb hby at_22) rfl rfl ?_
    obtain ⟨_, _, ⟨T_4, L_4, k_4, n_4⟩, -, X_4, ⟨Lc_4, hQ_4, l_4, y_4, z_4⟩, st_4⟩ := Jvm.LawKit.callS X_3 hx (y := (⟨"com/example/sextant/sextant/rdf/Iri", "isIriCharacter", "(C)Z"⟩ : MethodName)) hown (mvT hZ (hw _ (List.mem_of_getElem? (i := 4) rfl))) (mvT hZ (hw _ (List.mem_of_getElem? (i := 5) rfl))) (mvT hZ (hw _ (List.mem_of_getElem? (i := 6) rfl))) (mvT hZ (hw _ (List.mem_of_getElem? (i := 7) rfl))) (by decide) (backOf (W := 0) (rm2 l Z a0 hw [] ch h0 n0 Zs ) hZ (hw _ (List.mem_of_getElem? (i := 7) rfl)) (hw _ (List.mem_of_getElem? (i := 6) rfl)) (by decide) (by decide)) (g := (mkF m 23 #[.val (.int c0), .val (.int k0), .val (.int ch), .val (.int r1)] [(.int ch)])) rfl (by rw [hml]; rfl) (argsL := [(.int ch)]) (rest := []) (lenOf pd_0 rfl) rfl (by show 2 * 0 + _ ≤ _; exact Nat.le_of_eq rfl) (hb hby at_23) (fun _ _ => ⟨rfl, e_3, (by decide : 0 + 0 ≤ _), (by decide : 0 + 0 ≤ _)⟩)
    dsimp only [Pt.U, Pt.locs, Pt.cells, Pt.slots] at X_4 l_4 y_4 z_4 st_4 hQ_4
    subst l_4 y_4 z_4
    obtain ⟨Nq_4, e_4, r2, rfl, hr2⟩ := hQ_4
    replace Nf := Fr.app Nf Nq_4
    refine Win.go st_4 ?_
    show Win p.tables e below _ (T_4.setTop (mkF m 26 #[.val (.int c0), .val (.int k0), .val (.int ch), .val (.int r1)] [(.int r2)]))
    refine s_iloadN (pc' := 27) X_4.here hx (hb hby at_26) rfl rfl ?_
    by_cases hc27 : (r2).toInt = (r1).toInt
    · skip
      refine s_icmpNo (pc' := 30) X_4.here hx (hb hby at_27) rfl (teqI (x := r2) (y := r1) hc27).2 ?_
      refine s_iconst (pc' := 31) (z := (1 : Int32)) X_4.here hx (hb hby at_30) rfl rfl ?_
      refine s_goto (pc' := 35) X_4.here hx (hb hby at_31) (by decide) (by decide) ?_
      refine winN X_4 hx hlk e_4 (t := .boolean) Bd.returns (by simp) (hb hby at_35) (by decide) (by decide) (z' := 1) rfl ⟨Nf, rfl⟩
    · skip
      refine s_icmpYes (pc' := 34) X_4.here hx (hb hby at_27) (feqI (x := r2) (y := r1) hc27).2 (by decide) (by decide) ?_
      refine s_iconst (pc' := 35) (z := (0 : Int32)) X_4.here hx (hb hby at_34) rfl rfl ?_
      exfalso
      omega
set_option maxRecDepth 65536 in
set_option maxHeartbeats 40000000 in
theorem comes_1 {Post : Tables → Env → Array Value → State → Outcome → State → Prop} (hpost : ∀ tb e args s v u, (limb_1_1.after args s (.returned v) u = true ∧ limb_1_2.after args s (.returned v) u = true ∧ True) → FrameEnd s (.returned v) u (Jvm.fieldLocs frame_1_writes args s ++ Jvm.arrayLocs frame_1_arrays args s ++ Jvm.staticLocs frame_1_statics s) 0 0 → Post tb e args s (.returned v) u) :
    ArmFor flags0 classFile x code maxLocals ret World_1 tables_1 room_1 Calls_1 rest_1 Pre_1 Post := by
  intro l hfl _ _ p e ha hc hk s m args below hf hA hF happ hP
  obtain ⟨hcalls, hrest, hpre⟩ := hP
  obtain ⟨-, -, -, hnamed, -, -, -, hat⟩ := (Spec.applies_iff hf).mp happ
  obtain ⟨hg, hn⟩ := and_e (Cond.before_iff.mp (show (Jvm.Cond.and given_1 narrow_1).before args s = true from hpre))
  obtain ⟨g1, g2⟩ := and_e hg
  obtain ⟨g3, g4⟩ := and_e g2
  obtain ⟨w0, w1, rfl⟩ : ∃ w0 w1 : Value, args = #[w0, w1] := by
    have hs : args.size = 2 := by simpa [Cond.value, given_1] using g1
    obtain ⟨L⟩ := args
    match L, hs with
    | [w0, w1], _ => exact ⟨w0, w1, rfl⟩
  have hw := fun d (hd : d ∈ tables_1) => atoms_spec (ws := Jvm.Cond.code x code maxLocals ret :: tables_1) hat d (List.mem_cons_of_mem _ hd)
  have hfit : Fit s := fun {y c} hc i hi => by
    obtain ⟨ha, rfl⟩ := Array.getElem?_eq_some_iff.mp hc
    have q := List.all_eq_true.mp ((Array.all_eq_true_iff_forall_mem.mp hF) _ (Array.getElem_mem ha)) i (List.mem_range.mpr hi)
    simpa [Array.getElem?_eq_getElem hi] using q
  obtain ⟨i0, ei0⟩ := is_v g3
  obtain rfl : w0 = (.int i0) := Option.some.inj ei0
  obtain ⟨i1, ei1⟩ := is_v g4
  obtain rfl : w1 = (.int i1) := Option.some.inj ei1
  obtain ⟨n, o, h1, h2, h3, _, L, rfl, ⟨N, rfl⟩, hq⟩ := rm0 l s _ hw tables_1 i0 i1 s.heap s.heap.size (Nat.le_refl _) p e ha hc hk s m _ below hf ((Spec.applies_iff_loose hf).mp happ).1 ⟨rfl, State.Warmed39.refl s, rfl⟩ trivial
  refine ⟨n, _, h1, h2, h3, hpost _ _ _ _ _ _ ⟨Cond.after_iff.mpr rfl, Cond.after_iff.mpr (eq_i res_at (Term.int_eval (1)) rfl), trivial⟩ ⟨hq.1, hq.2.1, (hq.2.2.sift fun y hy => Or.inr (N y hy)).mono (by decide) (by decide)⟩⟩
theorem main_1_1 : Claimed_1_1 := comes_1 fun _ _ _ _ _ _ h hF => ⟨h.1, hF⟩
theorem main_1_2 : Claimed_1_2 := comes_1 fun _ _ _ _ _ _ h hF => ⟨h.2.1, hF⟩
end Jvm.Pilot.@@N@@
namespace Jvm.Pilot.@@N@@
open Jvm Jvm.ClassFile Sem Op Lib Jvm.Free Jvm.Stand Jvm.Pilot.@@N@@.Jvm.D
/-! MADE BY PROGRAM (witnessworld.py) out of the Statement's table words and the real class files: 10 classes; the members and pool entries that the words name. The judged class is class 1, her method 1. -/
namespace start1
open Jvm.ClassFile
def u (s : String) : CpInfo := .utf8 (stringToUtf16 s)
/-- a pool by its gaps: so many unusable entries, then the entry; so many at the end -/
def gap : Nat → List CpInfo → List CpInfo
  | 0, r => r
  | n + 1, r => .unusable :: gap n r
def poolList (es : List (Nat × CpInfo)) (last : Nat) : List CpInfo := es.foldr (fun e r => gap e.1 (e.2 :: r)) (gap last [])
def pool (es : List (Nat × CpInfo)) (last : Nat) : Array CpInfo := ⟨poolList es last⟩
def fileOf (pool : Array CpInfo) (this : Nat) (attrs : Array Attribute := #[]) (ms : Array MethodInfo := #[]) (fl : Nat := 33) (sup : Nat := 0) (ifs : Array Nat := #[]) (fds : Array FieldInfo := #[]) : ClassFile where
  minorVersion := 0
  majorVersion := 65
  constantPool := pool
  accessFlags := fl
  thisClass := this
  superClass := sup
  interfaces := ifs
  fields := fds
  methods := ms
  attributes := attrs
def plain (name : String) (sup : Option ClassId) : Class where
  name := name
  kind := .ordinary
  loader := none
  accessFlags := 33
  super := sup
  interfaces := #[]
  cf := none
  fields := #[]
  methods := #[]
  instanceTypes := #[]
  staticTypes := #[]
  resolved := #[]
  callSites := []
  init := .initialized
  statics := none
  mirror := none

def pool0 : Array CpInfo := pool [(5, u "<init>"), (0, u "()V"), (1, .class_ 10), (1, u "java/lang/Object")] 113

def k0m0 : Method := { name := "<init>", desc := "()V", sig := { parameters := [], returnType := none }, accessFlags := 1, code := none }
/-- java/lang/Object -/
def k0 : Class := { plain "java/lang/Object" none with
  accessFlags := 33
  interfaces := #[]
  cf := some (fileOf pool0 8 #[] #[{ accessFlags := 1, nameIndex := 5, descriptorIndex := 6, attributes := #[] }] 33 0 #[] #[])
  fields := #[]
  methods := #[k0m0]
  instanceTypes := #[]
  staticTypes := #[]
  resolved := Array.replicate 124 none
  statics := none }

def pool1 : Array CpInfo := pool [(2, .class_ 4), (1, u "java/lang/Object"), (0, u "<init>"), (0, u "()V"), (0, .methodref 8 9), (0, .class_ 10), (0, .nameAndType 11 12), (0, u "com/example/sextant/sextant/rdf/IriIsIriCharacterPinLaw"), (0, u "allowed"), (0, u "(C)Z"), (0, .methodref 14 15), (0, .class_ 16), (0, .nameAndType 17 12), (0, u "com/example/sextant/sextant/rdf/Iri"), (0, u "isIriCharacter"), (2, u "law"), (0, u "(II)Z")] 3

def k1m0 : Method := { name := "<init>", desc := "()V", sig := { parameters := [], returnType := none }, accessFlags := 1, code := none }
def k1c1 : Code := { maxStack := 2, maxLocals := 4, code := code, exceptionTable := #[], attributes := #[] }
def k1m1 : Method := { name := "law", desc := "(II)Z", sig := { parameters := [.int, .int], returnType := some .boolean }, accessFlags := 9, code := some k1c1 }
def k1c2 : Code := { maxStack := 2, maxLocals := 2, code := method_3_code, exceptionTable := #[], attributes := #[] }
def k1m2 : Method := { name := "allowed", desc := "(C)Z", sig := { parameters := [.char], returnType := some .boolean }, accessFlags := 10, code := some k1c2 }
/-- com/example/sextant/sextant/rdf/IriIsIriCharacterPinLaw -/
def k1 : Class := { plain "com/example/sextant/sextant/rdf/IriIsIriCharacterPinLaw" (some 0) with
  accessFlags := 49
  interfaces := #[]
  cf := some (fileOf pool1 8 #[] #[{ accessFlags := 1, nameIndex := 5, descriptorIndex := 6, attributes := #[] }, { accessFlags := 9, nameIndex := 20, descriptorIndex := 21, attributes := #[] }, { accessFlags := 10, nameIndex := 11, descriptorIndex := 12, attributes := #[] }] 49 2 #[] #[])
  fields := #[]
  methods := #[k1m0, k1m1, k1m2]
  instanceTypes := #[]
  staticTypes := #[]
  resolved := Array.replicate 25 none
  statics := none }

def pool2 : Array CpInfo := pool [(2, .class_ 4), (1, u "java/lang/Object"), (0, u "<init>"), (0, u "()V"), (4, .class_ 13), (1, u "com/example/sextant/sextant/rdf/Term")] 17

def k2m0 : Method := { name := "<init>", desc := "()V", sig := { parameters := [], returnType := none }, accessFlags := 0, code := none }
/-- com/example/sextant/sextant/rdf/Term -/
def k2 : Class := { plain "com/example/sextant/sextant/rdf/Term" (some 0) with
  accessFlags := 1057
  interfaces := #[]
  cf := some (fileOf pool2 11 #[] #[{ accessFlags := 0, nameIndex := 5, descriptorIndex := 6, attributes := #[] }] 1057 2 #[] #[])
  fields := #[]
  methods := #[k2m0]
  instanceTypes := #[]
  staticTypes := #[]
  resolved := Array.replicate 31 none
  statics := none }

def pool3 : Array CpInfo := pool [(2, .class_ 4), (1, u "com/example/sextant/sextant/rdf/Term"), (3, u "value"), (7, .class_ 18), (1, u "com/example/sextant/sextant/rdf/Iri"), (37, u "Ljava/lang/String;"), (5, .class_ 63), (0, u "com/example/sextant/sextant/rdf/Iri$Reference"), (115, u "(C)Z"), (2, u "ASCII_IRI_CHARACTERS"), (0, u "[Z"), (2, u "isIriCharacter")] 32

def k3c0 : Code := { maxStack := 2, maxLocals := 1, code := prog_22_method_13_code, exceptionTable := #[], attributes := #[] }
def k3m0 : Method := { name := "isIriCharacter", desc := "(C)Z", sig := { parameters := [.char], returnType := some .boolean }, accessFlags := 9, code := some k3c0 }
/-- com/example/sextant/sextant/rdf/Iri -/
def k3 : Class := { plain "com/example/sextant/sextant/rdf/Iri" (some 2) with
  accessFlags := 49
  interfaces := #[]
  cf := some (fileOf pool3 16 #[.nestMembers #[62]] #[{ accessFlags := 9, nameIndex := 186, descriptorIndex := 179, attributes := #[] }] 49 2 #[] #[{ accessFlags := 26, nameIndex := 182, descriptorIndex := 183, attributes := #[] }, { accessFlags := 18, nameIndex := 8, descriptorIndex := 56, attributes := #[] }])
  fields := #[{ name := "ASCII_IRI_CHARACTERS", type := (.array .boolean), accessFlags := 26, slot := 0, constantValue := 0 }, { name := "value", type := (.object "java/lang/String"), accessFlags := 18, slot := 0, constantValue := 0 }]
  methods := #[k3m0]
  instanceTypes := #[(.object "java/lang/String")]
  staticTypes := #[(.array .boolean)]
  resolved := Array.replicate 219 none
  statics := none }

def pool4 : Array CpInfo := pool [(1, u "java/lang/Cloneable"), (0, .class_ 1), (0, u "java/lang/Object"), (0, .class_ 3)] 3

/-- java/lang/Cloneable -/
def k4 : Class := { plain "java/lang/Cloneable" (some 0) with
  accessFlags := 1537
  interfaces := #[]
  cf := some (fileOf pool4 2 #[] #[] 1537 4 #[] #[])
  fields := #[]
  methods := #[]
  instanceTypes := #[]
  staticTypes := #[]
  resolved := Array.replicate 8 none
  statics := none }

def pool5 : Array CpInfo := pool [(1, u "java/io/Serializable"), (0, .class_ 1), (0, u "java/lang/Object"), (0, .class_ 3)] 3

/-- java/io/Serializable -/
def k5 : Class := { plain "java/io/Serializable" (some 0) with
  accessFlags := 1537
  interfaces := #[]
  cf := some (fileOf pool5 2 #[] #[] 1537 4 #[] #[])
  fields := #[]
  methods := #[]
  instanceTypes := #[]
  staticTypes := #[]
  resolved := Array.replicate 8 none
  statics := none }

/-- the primitive byte -/
def k6 : Class := { plain "byte" none with kind := .primitive 'B', accessFlags := 0x411 }
/-- [B -/
def k7 : Class := { plain "[B" (some 0) with kind := .array 6 .byte, interfaces := #[4, 5], accessFlags := 1041 }

/-- the primitive int -/
def k8 : Class := { plain "int" none with kind := .primitive 'I', accessFlags := 0x411 }
/-- [I -/
def k9 : Class := { plain "[I" (some 0) with kind := .array 8 .int, interfaces := #[4, 5], accessFlags := 1041 }

def heap : Heap := #[]
def classes : Array Class := #[k0, k1, k2, k3, k4, k5, k6, k7, k8, k9]
def interned : List (Array UInt16 × Addr) := []
def slotsUsed : Nat := 0
def theMethod : MethodId := ⟨1, 1⟩
def args0 : Array Value := #[.int 5, .int 5]
def aboutOver (below : List Frame) : State where
  vm := { classes := classes, interned := interned.toArray }
  heap := heap
  slotsUsed := slotsUsed
  threads := #[{ frames := .invoking theMethod args0 :: below }]
def below0 : List Frame := [.native { method := ⟨0, 0⟩, args := #[] }]
def about1 : State := aboutOver below0
def p0 : Program := .bare "" "" ""
def e0 : Env := launch0.env 0 0 0
theorem w_frames : about1.frames = Frame.invoking theMethod args0 :: below0 := rfl
set_option maxRecDepth 65536 in
theorem w_args : argsFit about1.vm theMethod args0 = true := by decide +kernel
set_option maxRecDepth 65536 in
theorem w_heap : heapFits about1 = true := by decide +kernel
set_option maxRecDepth 65536 in
theorem w_runnable : about1.curStatus? = some .runnable := by decide +kernel
set_option maxRecDepth 65536 in
theorem w_alone : about1.alone = true := by decide +kernel
set_option maxRecDepth 65536 in
theorem w_named : about1.methodNamed? x = some theMethod := by decide +kernel
set_option maxRecDepth 65536 in
theorem w_hears : about1.hears theMethod below0 = true := by decide +kernel
set_option maxRecDepth 65536 in
theorem w_ripe : about1.ripe theMethod args0 below0 = true := by decide +kernel
theorem w_running : about1.status = .running := rfl
set_option maxRecDepth 65536 in
theorem w_room : about1.hasRoom e0.platform room_1 = true :=
  launch0.hasRoom_least _ room_1 (by decide +kernel) (by decide +kernel) (by decide +kernel) (by decide +kernel) (by decide +kernel) (by decide +kernel)
theorem allAtoms_all (ts : List Jvm.Cond) (a : Array Jvm.Value) (st : Jvm.State) : (allAtoms ts).before a st = ts.all (fun c => c.before a st) := by
  induction ts with
  | nil => rfl
  | cons c t ih =>
    show (Jvm.Cond.and c (allAtoms t)).before a st = _
    rw [Jvm.Cond.before_and, ih, List.all_cons]
def words1 : List Jvm.Cond := Jvm.Cond.code x code maxLocals ret :: tables_1
/-- a 'code' word, met by the world's own term for the bytes: nothing is compared byte by byte -/
theorem code_word {y : MethodName} {bytes : ByteArray} {mx : Nat} {rt : Option FieldType} {a : Array Value} {s : State} {m : MethodId} {meth : Method} {c : Code} (h1 : s.methodNamed? y = some m) (h2 : s.vm.method? m = some meth) (h3 : meth.code = some c) (h4 : c.code = bytes)
    (h5 : (c.maxLocals == mx && c.exceptionTable.isEmpty && decide (c.maxStack ≤ mostOperands) && decide (meth.sig.returnType = rt) && !meth.locks && decide (parseMethodDescriptor y.desc = some meth.sig)) = true) : (Jvm.Cond.code y bytes mx rt).before a s = true := by
  simp only [Bool.and_eq_true, beq_iff_eq, Bool.not_eq_true', decide_eq_true_eq] at h5
  obtain ⟨⟨⟨⟨⟨g1, g2⟩, g3⟩, g4⟩, g5⟩, g6⟩ := h5
  simp [Cond.before, Cond.holds, Cond.value, h1, h2, h3, h4, g1, g2, g3, g4, g5, g6]
def isCode : Jvm.Cond → Bool
  | .code _ _ _ _ => true
  | _ => false
theorem all_split {L : List Jvm.Cond} {P : Jvm.Cond → Bool} (h1 : L.all (fun c => isCode c || P c) = true) (h2 : ∀ c ∈ L.filter isCode, P c = true) : L.all P = true := by
  refine List.all_eq_true.mpr fun c hc => ?_
  have h := List.all_eq_true.mp h1 c hc
  rcases Bool.eq_false_or_eq_true (isCode c) with hi | hi
  · exact h2 c (List.mem_filter.mpr ⟨hc, hi⟩)
  · simpa [hi] using h
set_option maxRecDepth 65536 in
theorem w_c0 : (Jvm.Cond.code x code maxLocals ret).before args0 about1 = true := code_word (m := ⟨1, 1⟩) (meth := k1m1) (c := k1c1) (by decide +kernel) rfl rfl rfl (by decide +kernel)
set_option maxRecDepth 65536 in
theorem w_c1 : (Jvm.Cond.code ({ cls := "com/example/sextant/sextant/rdf/IriIsIriCharacterPinLaw", name := "allowed", desc := "(C)Z" } : Jvm.MethodName) method_3_code (2 : Nat) (Option.some Jvm.ClassFile.FieldType.boolean)).before args0 about1 = true := code_word (m := ⟨1, 2⟩) (meth := k1m2) (c := k1c2) (by decide +kernel) rfl rfl rfl (by decide +kernel)
set_option maxRecDepth 65536 in
theorem w_c2 : (Jvm.Cond.code ({ cls := "com/example/sextant/sextant/rdf/Iri", name := "isIriCharacter", desc := "(C)Z" } : Jvm.MethodName) prog_22_method_13_code (1 : Nat) (Option.some Jvm.ClassFile.FieldType.boolean)).before args0 about1 = true := code_word (m := ⟨3, 0⟩) (meth := k3m0) (c := k3c0) (by decide +kernel) rfl rfl rfl (by decide +kernel)
def codes1 : List Jvm.Cond := [Jvm.Cond.code x code maxLocals ret, Jvm.Cond.code ({ cls := "com/example/sextant/sextant/rdf/IriIsIriCharacterPinLaw", name := "allowed", desc := "(C)Z" } : Jvm.MethodName) method_3_code (2 : Nat) (Option.some Jvm.ClassFile.FieldType.boolean), Jvm.Cond.code ({ cls := "com/example/sextant/sextant/rdf/Iri", name := "isIriCharacter", desc := "(C)Z" } : Jvm.MethodName) prog_22_method_13_code (1 : Nat) (Option.some Jvm.ClassFile.FieldType.boolean)]
set_option maxRecDepth 65536 in
theorem codes_eq : words1.filter isCode = codes1 := rfl
theorem w_codes : ∀ c ∈ words1.filter isCode, c.before args0 about1 = true := by
  rw [codes_eq]
  intro c hc
  simp only [codes1, List.mem_cons, List.not_mem_nil, or_false] at hc
  rcases hc with rfl | rfl | rfl
  · exact w_c0
  · exact w_c1
  · exact w_c2
set_option maxRecDepth 65536 in
theorem w_t1 : words1.all (fun c => isCode c || c.before args0 about1) = true := by decide +kernel
theorem w_tables : (allAtoms (Jvm.Cond.code x code maxLocals ret :: tables_1)).before args0 about1 = true := by
  rw [allAtoms_all]
  show words1.all (fun c => c.before args0 about1) = true
  refine all_split ?_ w_codes
  rw [w_t1]
set_option maxRecDepth 65536 in
theorem w_case : (Jvm.Cond.and given_1 narrow_1).before args0 about1 = true := by decide +kernel
theorem w_applies : (headSpec (Jvm.Cond.code x code maxLocals ret :: tables_1) room_1).applies x e0.platform about1 = true :=
  (Spec.applies_iff w_frames).mpr ⟨w_running, w_runnable, w_alone, w_named, w_hears, w_ripe, w_room, w_tables⟩
theorem atStart : AtStart classFile x code maxLocals ret World_1 tables_1 room_1 Calls_1 rest_1 Pre_1 launch0 p0 e0 about1 theMethod args0 below0 :=
  ⟨lists_1, trivial, launch0.admits_env _ _ _, launch0.least_env, fairChoices_fair.cas, fairChoices_fair.clock, w_frames, w_args, w_heap, w_applies, trivial, trivial, w_case⟩
end start1
theorem witness_1 : WitnessClaimed_1 := ⟨start1.p0, start1.e0, start1.about1, start1.theMethod, start1.args0, start1.below0, start1.atStart⟩
end Jvm.Pilot.@@N@@
