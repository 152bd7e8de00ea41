import PyProof.Rows.All
import Wide.All
import OpenK.AllK
import Wide.FinOn
import PyProof.ToksMono
import PyProof.CollectIter
import PyProof.EqKinds
import PyProof.NeKinds
import PyProof.WalksEnum
import PyProof.EnumMake
import PySem.Challenge.RW_bt5017_01
set_option Elab.async false
section
open PySem PySem.W PyProof.Rows
local macro_rules | `(tactic| k_head) => `(tactic| x_head)
namespace Mine
set_option maxRecDepth 100000 in
set_option maxHeartbeats 8000000 in
open_top hd for PySem.Challenge.rw_bt5017_01
end Mine
end
section
set_option maxRecDepth 100000
namespace Mine
open PySem PySem.W PyProof.Rows PySem.Calls
/-- the object that the head writes out at the i-th place -/
noncomputable def oAt (P : Params) (i : Nat) : Obj := (((hd.heap_39 P)[i]?).map (·.2)).getD default
/-- the written part without the code tables -/
noncomputable def KK : Params → Frag := fun P => 
  (nat_lit 2, oAt P 2) :: (nat_lit 3, oAt P 3) :: (nat_lit 32, oAt P 16) :: (nat_lit 34, oAt P 18) :: (nat_lit 35, oAt P 19) :: (nat_lit 37, oAt P 21) :: (nat_lit 38, oAt P 22) :: (nat_lit 42, oAt P 23) ::
  (nat_lit 43, oAt P 24) :: (nat_lit 47, oAt P 25) :: (nat_lit 48, oAt P 26) :: (nat_lit 52, oAt P 27) :: (nat_lit 53, oAt P 28) :: (nat_lit 57, oAt P 29) :: (nat_lit 58, oAt P 30) :: (nat_lit 59, oAt P 31) ::
  (nat_lit 61, oAt P 33) :: (nat_lit 62, oAt P 34) :: (nat_lit 64, oAt P 36) :: (nat_lit 65, oAt P 37) :: (nat_lit 66, oAt P 38) :: (nat_lit 73, oAt P 39) :: (nat_lit 75, oAt P 41) :: (nat_lit 76, oAt P 42) ::
  (nat_lit 78, oAt P 44) :: (nat_lit 79, oAt P 45) :: (nat_lit 80, oAt P 46) :: (nat_lit 82, oAt P 48) :: (nat_lit 83, oAt P 49) :: (nat_lit 85, oAt P 51) :: (nat_lit 86, oAt P 52) :: (nat_lit 87, oAt P 53) ::
  (nat_lit 89, oAt P 55) :: (nat_lit 90, oAt P 56) :: (nat_lit 92, oAt P 58) :: (nat_lit 93, oAt P 59) :: (nat_lit 94, oAt P 60) :: (nat_lit 96, oAt P 62) :: (nat_lit 97, oAt P 63) :: (nat_lit 99, oAt P 65) ::
  (nat_lit 100, oAt P 66) :: (nat_lit 101, oAt P 67) :: (nat_lit 103, oAt P 69) :: (nat_lit 104, oAt P 70) :: (nat_lit 106, oAt P 72) :: (nat_lit 107, oAt P 73) :: (nat_lit 108, oAt P 74) :: (nat_lit 109, oAt P 75) ::
  (nat_lit 110, oAt P 76) :: (nat_lit 111, oAt P 77) :: (nat_lit 112, oAt P 78) :: (nat_lit 115, oAt P 79) :: (nat_lit 117, oAt P 81) :: (nat_lit 118, oAt P 82) :: (nat_lit 120, oAt P 84) :: (nat_lit 121, oAt P 85) ::
  (nat_lit 122, oAt P 86) :: (nat_lit 124, oAt P 88) :: (nat_lit 125, oAt P 89) :: (nat_lit 127, oAt P 91) :: (nat_lit 128, oAt P 92) :: (nat_lit 129, oAt P 93) :: (nat_lit 131, oAt P 95) :: (nat_lit 132, oAt P 96) ::
  (nat_lit 134, oAt P 98) :: (nat_lit 135, oAt P 99) :: (nat_lit 206, oAt P 100) :: (nat_lit 213, oAt P 101) :: (nat_lit 215, oAt P 103) :: (nat_lit 216, oAt P 104) :: (nat_lit 218, oAt P 106) :: (nat_lit 219, oAt P 107) ::
  (nat_lit 220, oAt P 108) :: (nat_lit 222, oAt P 110) :: (nat_lit 223, oAt P 111) :: (nat_lit 225, oAt P 113) :: (nat_lit 226, oAt P 114) :: (nat_lit 227, oAt P 115) :: (nat_lit 229, oAt P 117) :: (nat_lit 230, oAt P 118) ::
  (nat_lit 232, oAt P 120) :: (nat_lit 233, oAt P 121) :: (nat_lit 234, oAt P 122) :: (nat_lit 235, oAt P 123) :: (nat_lit 236, oAt P 124) :: (nat_lit 237, oAt P 125) :: (nat_lit 238, oAt P 126) :: (nat_lit 242, oAt P 127) ::
  (nat_lit 249, oAt P 128) :: (nat_lit 251, oAt P 130) :: (nat_lit 252, oAt P 131) :: (nat_lit 254, oAt P 133) :: (nat_lit 255, oAt P 134) :: (nat_lit 256, oAt P 135) :: (nat_lit 258, oAt P 137) :: (nat_lit 259, oAt P 138) ::
  (nat_lit 261, oAt P 140) :: (nat_lit 262, oAt P 141) :: (nat_lit 263, oAt P 142) :: (nat_lit 265, oAt P 144) :: (nat_lit 266, oAt P 145) :: (nat_lit 268, oAt P 147) :: (nat_lit 269, oAt P 148) :: (nat_lit 270, oAt P 149) ::
  (nat_lit 271, oAt P 150) :: (nat_lit 272, oAt P 151) :: (nat_lit 273, oAt P 152) :: (nat_lit 274, oAt P 153) :: (nat_lit 278, oAt P 154) :: (nat_lit 285, oAt P 155) :: (nat_lit 286, oAt P 156) :: (nat_lit 288, oAt P 158) ::
  (nat_lit 289, oAt P 159) :: (nat_lit 291, oAt P 161) :: (nat_lit 292, oAt P 162) :: (nat_lit 293, oAt P 163) :: (nat_lit 294, oAt P 164) :: (nat_lit 296, oAt P 166) :: (nat_lit 297, oAt P 167) :: (nat_lit 299, oAt P 169) ::
  (nat_lit 300, oAt P 170) :: (nat_lit 301, oAt P 171) :: (nat_lit 302, oAt P 172) :: (nat_lit 303, oAt P 173) :: (nat_lit 304, oAt P 174) :: (nat_lit 306, oAt P 176) :: (nat_lit 307, oAt P 177) :: (nat_lit 309, oAt P 179) ::
  (nat_lit 310, oAt P 180) :: (nat_lit 311, oAt P 181) :: (nat_lit 313, oAt P 183) :: (nat_lit 314, oAt P 184) :: (nat_lit 316, oAt P 186) :: (nat_lit 317, oAt P 187) :: (nat_lit 318, oAt P 188) :: (nat_lit 320, oAt P 190) ::
  (nat_lit 321, oAt P 191) :: (nat_lit 323, oAt P 193) :: (nat_lit 324, oAt P 194) :: (nat_lit 325, oAt P 195) :: (nat_lit 326, oAt P 196) :: (nat_lit 328, oAt P 198) :: (nat_lit 329, oAt P 199) :: (nat_lit 331, oAt P 201) ::
  (nat_lit 332, oAt P 202) :: (nat_lit 333, oAt P 203) :: (nat_lit 334, oAt P 204) :: (nat_lit 336, oAt P 206) :: (nat_lit 337, oAt P 207) :: (nat_lit 339, oAt P 209) :: (nat_lit 340, oAt P 210) :: (nat_lit 341, oAt P 211) ::
  (nat_lit 342, oAt P 212) :: (nat_lit 343, oAt P 213) :: (nat_lit 344, oAt P 214) :: (nat_lit 345, oAt P 215) :: (nat_lit 347, oAt P 217) :: (nat_lit 348, oAt P 218) :: (nat_lit 350, oAt P 220) :: (nat_lit 351, oAt P 221) ::
  (nat_lit 352, oAt P 222) :: (nat_lit 353, oAt P 223) :: (nat_lit 354, oAt P 224) :: (nat_lit 355, oAt P 225) :: (nat_lit 356, oAt P 226) :: (nat_lit 358, oAt P 228) :: (nat_lit 359, oAt P 229) :: (nat_lit 361, oAt P 231) ::
  (nat_lit 362, oAt P 232) :: (nat_lit 363, oAt P 233) :: (nat_lit 364, oAt P 234) :: (nat_lit 365, oAt P 235) :: (nat_lit 366, oAt P 236) :: (nat_lit 368, oAt P 238) :: (nat_lit 369, oAt P 239) :: (nat_lit 371, oAt P 241) ::
  (nat_lit 372, oAt P 242) :: (nat_lit 373, oAt P 243) :: (nat_lit 374, oAt P 244) :: (nat_lit 375, oAt P 245) :: (nat_lit 376, oAt P 246) :: (nat_lit 378, oAt P 248) :: (nat_lit 379, oAt P 249) :: (nat_lit 381, oAt P 251) ::
  (nat_lit 382, oAt P 252) :: (nat_lit 383, oAt P 253) :: (nat_lit 385, oAt P 255) :: (nat_lit 386, oAt P 256) :: (nat_lit 388, oAt P 258) :: (nat_lit 389, oAt P 259) :: (nat_lit 390, oAt P 260) :: (nat_lit 391, oAt P 261) ::
  (nat_lit 393, oAt P 263) :: (nat_lit 394, oAt P 264) :: (nat_lit 396, oAt P 266) :: (nat_lit 397, oAt P 267) :: (nat_lit 398, oAt P 268) :: (nat_lit 400, oAt P 270) :: (nat_lit 401, oAt P 271) :: (nat_lit 403, oAt P 273) ::
  (nat_lit 404, oAt P 274) :: (nat_lit 405, oAt P 275) :: (nat_lit 406, oAt P 276) :: (nat_lit 408, oAt P 278) :: (nat_lit 409, oAt P 279) :: (nat_lit 411, oAt P 281) :: (nat_lit 412, oAt P 282) :: (nat_lit 413, oAt P 283) ::
  (nat_lit 415, oAt P 285) :: (nat_lit 416, oAt P 286) :: (nat_lit 418, oAt P 288) :: (nat_lit 419, oAt P 289) :: (nat_lit 420, oAt P 290) :: (nat_lit 422, oAt P 292) :: (nat_lit 423, oAt P 293) :: (nat_lit 425, oAt P 295) ::
  (nat_lit 426, oAt P 296) :: (nat_lit 427, oAt P 297) :: (nat_lit 429, oAt P 299) :: (nat_lit 430, oAt P 300) :: (nat_lit 432, oAt P 302) :: (nat_lit 433, oAt P 303) :: (nat_lit 434, oAt P 304) :: (nat_lit 436, oAt P 306) ::
  (nat_lit 437, oAt P 307) :: (nat_lit 439, oAt P 309) :: (nat_lit 440, oAt P 310) :: (nat_lit 441, oAt P 311) :: (nat_lit 443, oAt P 313) :: (nat_lit 444, oAt P 314) :: (nat_lit 446, oAt P 316) :: (nat_lit 447, oAt P 317) ::
  (nat_lit 448, oAt P 318) :: (nat_lit 450, oAt P 320) :: (nat_lit 451, oAt P 321) :: (nat_lit 453, oAt P 323) :: (nat_lit 454, oAt P 324) :: (nat_lit 455, oAt P 325) :: (nat_lit 456, oAt P 326) :: (nat_lit 457, oAt P 327) ::
  (nat_lit 458, oAt P 328) :: (nat_lit 459, oAt P 329) :: (nat_lit 462, oAt P 330) :: (nat_lit 464, oAt P 332) :: (nat_lit 465, oAt P 333) :: (nat_lit 467, oAt P 335) :: (nat_lit 468, oAt P 336) :: (nat_lit 469, oAt P 337) ::
  (nat_lit 471, oAt P 339) :: (nat_lit 472, oAt P 340) :: (nat_lit 474, oAt P 342) :: (nat_lit 475, oAt P 343) :: (nat_lit 476, oAt P 344) :: (nat_lit 477, oAt P 345) :: (nat_lit 478, oAt P 346) :: (nat_lit 479, oAt P 347) ::
  (nat_lit 480, oAt P 348) :: (nat_lit 481, oAt P 349) :: (nat_lit 482, oAt P 350) :: (nat_lit 483, oAt P 351) :: (nat_lit 485, oAt P 353) :: (nat_lit 486, oAt P 354) :: (nat_lit 488, oAt P 356) :: (nat_lit 489, oAt P 357) ::
  (nat_lit 490, oAt P 358) :: (nat_lit 492, oAt P 360) :: (nat_lit 493, oAt P 361) :: (nat_lit 495, oAt P 363) :: (nat_lit 496, oAt P 364) :: (nat_lit 497, oAt P 365) :: (nat_lit 499, oAt P 367) :: (nat_lit 500, oAt P 368) ::
  (nat_lit 502, oAt P 370) :: (nat_lit 503, oAt P 371) :: (nat_lit 504, oAt P 372) :: (nat_lit 507, oAt P 375) :: (nat_lit 508, oAt P 376) :: (nat_lit 509, oAt P 377) :: (nat_lit 512, oAt P 380) :: (nat_lit 513, oAt P 381) ::
  (nat_lit 514, oAt P 382) :: (nat_lit 517, oAt P 385) :: (nat_lit 518, oAt P 386) :: (nat_lit 519, oAt P 387) :: (nat_lit 521, oAt P 389) :: (nat_lit 522, oAt P 390) :: (nat_lit 524, oAt P 392) :: (nat_lit 525, oAt P 393) :: []

theorem in_sub {K' K : Frag} {h : Heap} (e : K'.map (fun p => K.lookup p.1) = K'.map (fun p => some p.2)) (X : K.In h) : K'.In h := by
  intro a o hl
  induction K' with
  | nil => cases hl
  | cons p r ih =>
    obtain ⟨b, x⟩ := p
    simp only [List.map_cons, List.cons.injEq] at e
    simp only [List.lookup] at hl
    split at hl
    · rename_i q
      cases hl
      rw [beq_iff_eq.mp q]
      exact X _ _ e.1
    · exact ih e.2 hl
theorem KK_of (P : Params) : (KK P).map (fun p => (hd.heap_39 P).lookup p.1) = (KK P).map (fun p => some p.2) := by kernel_rfl
theorem KK_in {P : Params} {h : Heap} (X : (hd.heap_39 P).In h) : (KK P).In h := in_sub (KK_of P) X
theorem KK_noTabs (P : Params) : noTabs (KK P) = true := by kernel_rfl
theorem tabC_at {P : Params} {h : Heap} (X : (hd.heap_39 P).In h) : h.get? 335 = some (tabObj #[]) := X 335 _ (by kernel_rfl)
theorem tabB_at {P : Params} {h : Heap} (X : (hd.heap_39 P).In h) : h.get? 392 = some (tabObj #[]) := X 392 _ (by kernel_rfl)
theorem codeC_at {P : Params} {h : Heap} (X : (KK P).In h) : CodeHd h 339 335 := codeHd_of_K X (by kernel_rfl)
theorem codeB_at {P : Params} {h : Heap} (X : (KK P).In h) : CodeHd h 396 392 := codeHd_of_K X (by kernel_rfl)
end Mine
end
section
set_option maxRecDepth 100000
namespace Mine
open PySem PySem.W PyProof.Rows PySem.Calls
abbrev PR : Program := PySem.Challenge.rw_bt5017_01.row.prog
/-- what is known of the top at a heap -/
structure Ctx (w : World) (loose : List Str) (mg mb : Str → Option Value) (mean : ExcName → Option Value) (h : Heap) : Prop where
  K : (KK w.params).In h
  T : Top topProg loose mean mg mb h
theorem Ctx.keeps {w : World} {loose : List Str} {mg mb : Str → Option Value} {mean : ExcName → Option Value} {h h' : Heap} (C : Ctx w loose mg mb mean h) (k : ∀ b o, h.get? b = some o → h'.get? b = some o) : Ctx w loose mg mb mean h' :=
  ⟨C.K.keeps k, C.T.keeps k⟩
section
variable {w : World} {loose : List Str} {mg mb : Str → Option Value} {mean : ExcName → Option Value} {A : Around} {s : Shared} {R : Result → Shared → Prop} {E : Value → Shared → Prop}
theorem enter {f : Addr} {name qual : Str} {params : Arguments} {body : List Stmt} {scope : Scope} {dV kV doc pm cdv ct oc : Value} {an od : Option Addr} {osl : Array (Option Value)} {args : Args} {binds : List (Str × Value)}
    (C : Ctx w loose mg mb mean s.heap) (ho : (KK w.params).lookup f = some ⟨oc, od, .func (fnOf name qual params body scope dV kV doc pm an cdv ct), osl⟩) (hcd : codeIn (KK w.params) cdv qual = true) (hroom : A.depth < recursionLimit)
    (hbind : BindsTo s (fnOf name qual params body scope dV kV doc pm an cdv ct) args binds) (hloc : ∀ y ∈ binds, scope.names.lookup y.1 = some .local)
    (h : ∀ L h₁ tk, L = s.heap.objs.size → s.toks ≤ tk → Fr s.heap L h₁ (fun y => binds.reverse.lookup y) → Ctx w loose mg mb mean s.heap →
      wpAny (model PR w) (A.deeper (envOf qual scope L f cdv)) (execs body (envOf qual scope L f cdv))
        (fun fl s' => R (.ok (.ret (match fl with | .ret v => v | _ => .none))) s')
        (fun e s' => wpAny (model PR w) (A.deeper (envOf qual scope L f cdv)) (leaving (envOf qual scope L f cdv) e) (fun _ s'' => R (.error e) s'') (fun e' s'' => R (.error e') s'') s')
        { s with heap := h₁, toks := tk })
    (hco : scope.isCoroutine = false) (hgen : scope.isGenerator = false) (hk : scope.kind = .function) (hcell : ∀ x ∈ scope.names, x.2 ≠ .cell) :
    codeAny (model PR w) A (.call (.ref f) args) R s :=
  codeAny_call_def (fd := fnOf name qual params body scope dV kV doc pm an cdv ct) (body := body) (binds := binds) hroom (C.K _ _ ho) rfl C.T.nolimit (codeRec_of C.K hcd) rfl hbind hcell hloc
    (fun h₁ hns hk₁ => h _ h₁ _ rfl (Nat.le_add_right ..) ⟨hns, hk₁, Nat.le_refl _⟩ C) hco hgen hk
end
end Mine
end
section
set_option maxRecDepth 100000
namespace Mine
open PySem PySem.W PyProof.Rows PySem.Calls
/-- a turn's end: the frame, the ledger (same addresses, the others as they were), the word -/
def TEnd (h₀ : Heap) (L : Addr) (J : (Str → Option Value) → List (Addr × Obj) → Prop) (own : List (Addr × Obj)) (adr : List Addr) (s₁ s₂ : Shared) : Prop :=
  ∃ h' tk m' nx, s₂ = { s₁ with heap := h', toks := tk } ∧ Fr h₀ L h' m' ∧ News h₀ L h' (nx ++ own) ∧ nx.map (·.1) = adr ∧ J m' nx
def TPost (h₀ : Heap) (L : Addr) (J : (Str → Option Value) → List (Addr × Obj) → Prop) (own : List (Addr × Obj)) (adr : List Addr) (s₁ : Shared) (Q : Flow → Shared → Prop) (f : Flow) (s₂ : Shared) : Prop :=
  match f with
  | .ret v => Q (.ret v) s₂
  | .brk => Q .next s₂
  | _ => TEnd h₀ L J own adr s₁ s₂
theorem TEnd.intro {h₀ h' : Heap} {L : Addr} {J : (Str → Option Value) → List (Addr × Obj) → Prop} {own nx all : List (Addr × Obj)} {adr : List Addr} {s₁ : Shared} {tk : Nat} {m' : Str → Option Value}
    (F : Fr h₀ L h' m') (N : News h₀ L h' all) (hs : ∀ p ∈ nx ++ own, p ∈ all) (ha : nx.map (·.1) = adr) (hj : J m' nx) : TEnd h₀ L J own adr s₁ { s₁ with heap := h', toks := tk } :=
  ⟨h', tk, m', nx, rfl, F, fun p hp => N p (hs p hp), ha, hj⟩
section
variable {prog : Program} {w : World} {A : Around} {E : Value → Shared → Prop} {s : Shared} {env : Env} {h₀ : Heap} {x : Str} {body : List Stmt} {Q : Flow → Shared → Prop}
theorem forJ {I : Addr} {fp wr : List Addr} {n : Nat} {P : Nat → Value → Prop} {St : Nat → Heap → Prop} {m₀ : Str → Option Value} {news : List (Addr × Obj)} (J : Nat → (Str → Option Value) → List (Addr × Obj) → Prop)
    (W : Walks prog w A I fp wr n P St) (hLf : env.locals ∉ fp) (hwr : ∀ b ∈ wr, h₀.get? b = none) (hnf : ∀ p ∈ news, p.1 ∉ fp) (hst : St 0 s.heap) (F : Fr h₀ env.locals s.heap m₀) (N : News h₀ env.locals s.heap news) (hj : J 0 m₀ news)
    (turn : ∀ i v m₁ news₁ h tk own, i < n → P i v → J i m₁ news₁ → news₁.map (·.1) = news.map (·.1) → OwnOff own (news.map (·.1)) → Fr h₀ env.locals h (fun y => if y = x then some v else m₁ y) → News h₀ env.locals h (news₁ ++ own) →
      wpAny (model prog w) A (execs body env) (TPost h₀ env.locals (J (i + 1)) own (news.map (·.1)) { s with heap := h, toks := tk } Q) E { s with heap := h, toks := tk })
    (done : ∀ m₁ news₁ h tk, J n m₁ news₁ → news₁.map (·.1) = news.map (·.1) → Fr h₀ env.locals h m₁ → News h₀ env.locals h news₁ → Q .next { s with heap := h, toks := tk }) :
    LoopAtV prog w A h₀ env x body Q E (.ref I) s := by
  have sub := W.sub
  have off : ∀ {nx : List (Addr × Obj)}, nx.map (·.1) = news.map (·.1) → ∀ p ∈ nx, p.1 ∉ fp := fun e p hp hb => by
    have : p.1 ∈ news.map (·.1) := e ▸ List.mem_map_of_mem hp
    obtain ⟨q, hq, eq⟩ := List.mem_map.mp this
    exact hnf q hq (eq ▸ hb)
  refine ⟨I, fp, wr, n, P, St, m₀, news, fun i m nx => nx.map (·.1) = news.map (·.1) ∧ J i m nx, rfl, W, hLf, hwr, fun p hp hb => hnf p hp (sub _ hb), hst, F, N, ⟨rfl, hj⟩, ?_, ?_⟩
  · rintro i v m₁ news₁ s₁ own ⟨hh, tk, rfl⟩ hin hP ⟨hadr, hJ⟩ _ hown _ _ _ F₁ N₁
    have hoff : OwnOff own (news.map (·.1)) := fun p hp b hb e => by
      obtain ⟨q, hq, rfl⟩ := List.mem_map.mp hb
      exact hnf q hq (e ▸ hown p hp)
    refine wpAny_mono (turn i v m₁ news₁ hh tk own hin hP hJ hadr hoff F₁ (fun p hp => N₁ p ((List.mem_append.mp hp).elim (List.mem_append_right _) (List.mem_append_left _)))) (fun f s₂ p => ?_) fun _ _ e => e
    have fin : TEnd h₀ env.locals (J (i + 1)) own (news.map (·.1)) { s with heap := hh, toks := tk } s₂ → LoopStepU h₀ env.locals wr own (fun m nx => nx.map (·.1) = news.map (·.1) ∧ J (i + 1) m nx) { s with heap := hh, toks := tk } .next s₂ := by
      rintro ⟨h', tk', m', nx, e, F', N', ha, hm⟩
      exact ⟨rfl, h', tk', m', nx, e, F', fun p hp => N' p ((List.mem_append.mp hp).elim (List.mem_append_right _) (List.mem_append_left _)), fun p hp hb => off ha p hp (sub _ hb), ha, hm⟩
    cases f with
    | ret v => exact .ret p
    | brk => exact .brk p
    | next => exact .next (fin p)
    | cont => exact .cont (fin p)
  · rintro h' tk m' news' F' N' _ ⟨ha, hJ⟩
    exact done m' news' h' tk hJ ha F' N'
theorem iterJ_list {L : Addr} {l : Addr} {items : Array Value} {m₀ : Str → Option Value} {news : List (Addr × Obj)} (J : Nat → (Str → Option Value) → List (Addr × Obj) → Prop)
    (hEL : env.locals = L) (hh : A.handled = none) (hl : s.heap.IsList l items) (hlL : l ≠ L) (hln : ∀ p ∈ news, p.1 ≠ l) (F : Fr h₀ L s.heap m₀) (N : News h₀ L s.heap news) (hj : J 0 m₀ news)
    (turn : ∀ i v m₁ news₁ h tk own, items[i]? = some v → J i m₁ news₁ → news₁.map (·.1) = news.map (·.1) → OwnOff own (news.map (·.1)) → Fr h₀ L h (fun y => if y = x then some v else m₁ y) → News h₀ L h (news₁ ++ own) →
      wpAny (model prog w) A (execs body env) (TPost h₀ L (J (i + 1)) own (news.map (·.1)) { s with heap := h, toks := tk } Q) E { s with heap := h, toks := tk })
    (done : ∀ m₁ news₁ h tk, J items.size m₁ news₁ → news₁.map (·.1) = news.map (·.1) → Fr h₀ L h m₁ → News h₀ L h news₁ → Q .next { s with heap := h, toks := tk }) :
    wpAny (model prog w) A (pyIter (.ref l)) (fun it s₂ => LoopAtV prog w A h₀ env x body Q E it s₂) E s := by
  subst hEL
  have hlt : l < s.heap.objs.size := let ⟨_, e, _⟩ := hl; Heap.lt_size e
  refine wpAny_pyIter_list hl (forJ J (Walks.list hh _ l (Nat.ne_of_lt hlt) items) ?_ ?_ ?_ ⟨⟨_, Heap.get?_push_size _ rfl, rfl, rfl⟩, hl.push _⟩ (F.push _) (fun p hp => ⟨Heap.get?_push_of_some _ (N p hp).1, (N p hp).2⟩) hj
    (fun i v m₁ news₁ h tk own _ hP => turn i v m₁ news₁ h tk own hP) done)
  · intro hm
    rcases List.mem_cons.mp hm with e | hm
    · exact absurd F.ns.lt (e ▸ Nat.lt_irrefl _)
    · exact hlL (List.mem_singleton.mp hm).symm
  · intro b hb
    rw [List.mem_singleton.mp hb]
    exact next_is_new F
  · intro p hp hb
    rcases List.mem_cons.mp hb with e | hb
    · exact absurd (Heap.lt_size (N p hp).1) (e ▸ Nat.lt_irrefl _)
    · exact hln p hp (List.mem_singleton.mp hb)
theorem iterJ_tuple {L : Addr} {l : Addr} {items : Array Value} {m₀ : Str → Option Value} {news : List (Addr × Obj)} (J : Nat → (Str → Option Value) → List (Addr × Obj) → Prop)
    (hEL : env.locals = L) (hh : A.handled = none) (hl : IsTup s.heap l items) (hlL : l ≠ L) (hln : ∀ p ∈ news, p.1 ≠ l) (F : Fr h₀ L s.heap m₀) (N : News h₀ L s.heap news) (hj : J 0 m₀ news)
    (turn : ∀ i v m₁ news₁ h tk own, items[i]? = some v → J i m₁ news₁ → news₁.map (·.1) = news.map (·.1) → OwnOff own (news.map (·.1)) → Fr h₀ L h (fun y => if y = x then some v else m₁ y) → News h₀ L h (news₁ ++ own) →
      wpAny (model prog w) A (execs body env) (TPost h₀ L (J (i + 1)) own (news.map (·.1)) { s with heap := h, toks := tk } Q) E { s with heap := h, toks := tk })
    (done : ∀ m₁ news₁ h tk, J items.size m₁ news₁ → news₁.map (·.1) = news.map (·.1) → Fr h₀ L h m₁ → News h₀ L h news₁ → Q .next { s with heap := h, toks := tk }) :
    wpAny (model prog w) A (pyIter (.ref l)) (fun it s₂ => LoopAtV prog w A h₀ env x body Q E it s₂) E s := by
  subst hEL
  have hlt : l < s.heap.objs.size := let ⟨_, e, _⟩ := hl; Heap.lt_size e
  refine wpAny_pyIter_tuple hl (forJ J (Walks.tuple hh _ l (Nat.ne_of_lt hlt) items) ?_ ?_ ?_ ⟨⟨_, Heap.get?_push_size _ rfl, rfl, rfl⟩, Heap.IsTuple.push hl _⟩ (F.push _) (fun p hp => ⟨Heap.get?_push_of_some _ (N p hp).1, (N p hp).2⟩) hj
    (fun i v m₁ news₁ h tk own _ hP => turn i v m₁ news₁ h tk own hP) done)
  · intro hm
    rcases List.mem_cons.mp hm with e | hm
    · exact absurd F.ns.lt (e ▸ Nat.lt_irrefl _)
    · exact hlL (List.mem_singleton.mp hm).symm
  · intro b hb
    rw [List.mem_singleton.mp hb]
    exact next_is_new F
  · intro p hp hb
    rcases List.mem_cons.mp hb with e | hb
    · exact absurd (Heap.lt_size (N p hp).1) (e ▸ Nat.lt_irrefl _)
    · exact hln p hp (List.mem_singleton.mp hb)
theorem iterJ_range {L : Addr} {r : Addr} {a₀ b₀ : Int} {t₀ u₀ v₀ : Tok} {n : Nat} {m₀ : Str → Option Value} {news : List (Addr × Obj)} (J : Nat → (Str → Option Value) → List (Addr × Obj) → Prop)
    (hEL : env.locals = L) (hh : A.handled = none) (hr : IsRange s.heap r a₀ b₀ 1 t₀ u₀ v₀) (hsmall : Builtin.Range.small a₀ b₀ 1 = true) (hn : Builtin.Range.rangeSize a₀ b₀ 1 = (n : Int)) (F : Fr h₀ L s.heap m₀) (N : News h₀ L s.heap news) (hj : J 0 m₀ news)
    (turn : ∀ i t m₁ news₁ h tk own, i < n → J i m₁ news₁ → news₁.map (·.1) = news.map (·.1) → OwnOff own (news.map (·.1)) → Fr h₀ L h (fun y => if y = x then some (.int (a₀ + (i : Int) * 1) t) else m₁ y) → News h₀ L h (news₁ ++ own) →
      wpAny (model prog w) A (execs body env) (TPost h₀ L (J (i + 1)) own (news.map (·.1)) { s with heap := h, toks := tk } Q) E { s with heap := h, toks := tk })
    (done : ∀ m₁ news₁ h tk, J n m₁ news₁ → news₁.map (·.1) = news.map (·.1) → Fr h₀ L h m₁ → News h₀ L h news₁ → Q .next { s with heap := h, toks := tk }) :
    wpAny (model prog w) A (pyIter (.ref r)) (fun it s₂ => LoopAtV prog w A h₀ env x body Q E it s₂) E s := by
  subst hEL
  refine wpAny_pyIter_range hr hsmall (forJ J (Walks.range hh _ a₀ 1 n) ?_ ?_ ?_ (by show IsRangeIter _ _ _ _ _; rw [hn]; simpa using Heap.get?_push_size _ rfl) (F.push _) (fun p hp => ⟨Heap.get?_push_of_some _ (N p hp).1, (N p hp).2⟩) hj
    (fun i v m₁ news₁ h tk own hi hP hJ ha ho F₁ N₁ => by obtain ⟨t, rfl⟩ := hP; exact turn i t m₁ news₁ h tk own hi hJ ha ho F₁ N₁) done)
  · intro hm
    exact absurd F.ns.lt ((List.mem_singleton.mp hm) ▸ Nat.lt_irrefl _)
  · intro b hb
    rw [List.mem_singleton.mp hb]
    exact next_is_new F
  · intro p hp hb
    exact absurd (Heap.lt_size (N p hp).1) ((List.mem_singleton.mp hb) ▸ Nat.lt_irrefl _)
end
end Mine
end
section
set_option maxRecDepth 100000
namespace Mine
open PySem PySem.W PyProof.Rows PySem.Calls
/-- a call that gives back a value and keeps what stood -/
def Ret (s : Shared) (P : Value → Heap → Prop) (r : Result) (s' : Shared) : Prop := ∃ v h' tk, r = .ok (.ret v) ∧ s' = { s with heap := h', toks := tk } ∧ P v h' ∧ (∀ b o, s.heap.get? b = some o → h'.get? b = some o)
theorem Ret.intro {s : Shared} {P : Value → Heap → Prop} {v : Value} {h' : Heap} {tk : Nat} (p : P v h') (k : ∀ b o, s.heap.get? b = some o → h'.get? b = some o) : Ret s P (.ok (.ret v)) { s with heap := h', toks := tk } :=
  ⟨v, h', tk, rfl, rfl, p, k⟩
theorem News.keeps {h₀ h h' : Heap} {L : Addr} {news : List (Addr × Obj)} (N : News h₀ L h news) (k : ∀ b o, h.get? b = some o → h'.get? b = some o) : News h₀ L h' news :=
  fun p hp => ⟨k _ _ (N p hp).1, (N p hp).2⟩
section
variable {prog : Program} {w : World} {A : Around} {E : Value → Shared → Prop} {s : Shared} {h₀ : Heap} {L : Addr} {m : Str → Option Value} {news : List (Addr × Obj)} {Q : Value → Shared → Prop}
theorem callR {f : Value} {pos : List Value} {kw : List (Str × Value)} {P : Value → Heap → Prop} (F : Fr h₀ L s.heap m) (N : News h₀ L s.heap news)
    (h : codeAny (model prog w) A (.call f ⟨pos, kw⟩) (Ret s P) s)
    (k : ∀ v h' tk, P v h' → Fr h₀ L h' m → News h₀ L h' news → (∀ b o, s.heap.get? b = some o → h'.get? b = some o) → Q v { s with heap := h', toks := tk }) : wpAny (model prog w) A (call f pos kw) Q E s := by
  refine wpAny_call (codeAny_mono h fun r s' hr => ?_)
  obtain ⟨v, h', tk, rfl, rfl, p, kk⟩ := hr
  exact k v h' tk p (F.keeps kk) (N.keeps kk) kk
end
end Mine
end
section
set_option maxRecDepth 100000
namespace Mine
open PySem PySem.W PyProof.Rows PySem.Calls
theorem expl {h₀ h : Heap} {L : Addr} {m : Str → Option Value} (F : Fr h₀ L h m) (a : Str) {v : Value} (e : m a = some v) : Fr h₀ L h (fun y => if y = a then some v else m y) := by
  have : (fun y => if y = a then some v else m y) = m := by
    funext y
    by_cases q : y = a
    · rw [if_pos q, q, e]
    · rw [if_neg q]
  rw [this]; exact F
def told (l : List (Str × Value)) (m : Str → Option Value) (y : Str) : Option Value := match l.lookup y with
  | some v => some v
  | none => m y
theorem explL {h₀ h : Heap} {L : Addr} {m : Str → Option Value} (F : Fr h₀ L h m) (l : List (Str × Value)) (e : ∀ p ∈ l, m p.1 = some p.2) : Fr h₀ L h (told l m) := by
  have : told l m = m := by
    funext y
    unfold told
    split
    · rename_i v hv
      have : ∀ (l : List (Str × Value)), l.lookup y = some v → (y, v) ∈ l := by
        intro l
        induction l with
        | nil => intro q; cases q
        | cons p r ih =>
          obtain ⟨a, b⟩ := p
          intro q
          rw [List.lookup_cons] at q
          split at q
          · rename_i hq
            cases q
            rw [eq_of_beq hq]; exact .head _
          · exact .tail _ (ih q)
      exact (e _ (this l hv)).symm
    · rfl
  rw [this]; exact F
theorem explX {h₀ h : Heap} {L : Addr} {m : Str → Option Value} {x : Str} {v : Value} (F : Fr h₀ L h (fun y => if y = x then some v else m y)) (l : List (Str × Value)) (e : ∀ p ∈ l, m p.1 = some p.2) (hne : (l.all fun p => decide (p.1 ≠ x)) = true) : Fr h₀ L h (told ((x, v) :: l) m) := by
  have := explL F ((x, v) :: l) (fun p hp => by
    rcases List.mem_cons.mp hp with rfl | hp
    · exact if_pos rfl
    · rw [if_neg (of_decide_eq_true (List.all_eq_true.mp hne p hp))]; exact e p hp)
  have e2 : told ((x, v) :: l) (fun y => if y = x then some v else m y) = told ((x, v) :: l) m := by
    funext y
    unfold told
    by_cases q : y = x
    · subst q; rw [List.lookup_cons, beq_self_eq_true]
    · split
      · rfl
      · exact if_neg q
  rw [e2] at this; exact this
/-- where ways meet: the next statement, something known of the heap -/
def Jn (s₀ : Shared) (P : Heap → Prop) (f : Flow) (s₂ : Shared) : Prop := f = .next ∧ ∃ h' tk', s₂ = { s₀ with heap := h', toks := tk' } ∧ P h'
theorem Jn.intro {s₀ : Shared} {P : Heap → Prop} {h' : Heap} {tk' : Nat} (p : P h') : Jn s₀ P .next { s₀ with heap := h', toks := tk' } := ⟨rfl, h', tk', rfl, p⟩
theorem wpAny_join {M : Model} {A : Around} {E : Value → Shared → Prop} {Q : Flow → Shared → Prop} {t : Sem Flow} {s : Shared} (P : Heap → Prop) (h : wpAny M A t (Jn s P) E s) (k : ∀ h' tk', P h' → Q .next { s with heap := h', toks := tk' }) : wpAny M A t Q E s :=
  wpAny_mono h (fun _ _ ⟨e, h', tk', e2, p⟩ => by subst e e2; exact k h' tk' p) fun _ _ e => e
theorem nm {h₀ h : Heap} {L a : Addr} {o : Obj} {r : List (Addr × Obj)} (_N : News h₀ L h ((a, o) :: r)) : ∃ x, x = a := ⟨a, rfl⟩
def isDig (c : Nat) : Bool := 48 ≤ c && c ≤ 57
/-- plain signs alone: ASCII, no line feed -/
abbrev Plain (x : Str) : Prop := ∀ c ∈ x.cps.toList, c < 128 ∧ c ≠ 10
theorem plain_append {x y : Str} (hx : Plain x) (hy : Plain y) : Plain (x ++ y) := by
  intro c hc
  have e : (x ++ y).cps = x.cps ++ y.cps := rfl
  rw [e, Array.toList_append] at hc
  exact (List.mem_append.mp hc).elim (hx c) (hy c)
end Mine
end
section
set_option maxRecDepth 100000
namespace Mine
open PySem PySem.W PyProof.Rows PySem.Calls PySem.Builtin
theorem small_layable {p : Int} (h : 0 ≤ p ∧ p < 1000) : PyData.layable0 (.int p) = true := by
  obtain ⟨n, rfl⟩ : ∃ n : Nat, p = n := ⟨p.toNat, by omega⟩
  have hn : n < 1000 := by omega
  unfold PyData.layable0
  simp only [PyData.canLay0, PyData.depth, PyData.weight, Bool.true_and, Bool.and_eq_true]
  refine ⟨decide_eq_true (by omega), decide_eq_true ?_⟩
  split
  · exact Nat.zero_le _
  · have : (n : Int).natAbs.log2 < 10 := by
      rw [Int.natAbs_natCast]
      rcases Nat.eq_zero_or_pos n with rfl | h0
      · decide
      · exact (Nat.log2_lt (by omega)).mpr (by omega)
    omega
theorem foldl_len {sep : Str} {b : Nat} : ∀ (l : List Str) (a : Nat), (∀ x ∈ l, x.length ≤ b) → l.foldl (fun n x => n + x.length + sep.length) a ≤ a + l.length * (b + sep.length)
  | [], a, _ => by simp
  | x :: r, a, h => by
    rw [List.foldl_cons]
    refine Nat.le_trans (foldl_len r _ fun y hy => h y (.tail _ hy)) ?_
    have := h x (.head _)
    rw [List.length_cons, Nat.add_mul, Nat.one_mul]; omega
theorem joinOk_of {sep : Str} {b : Nat} {l : List Str} (h : ∀ x ∈ l, x.length ≤ b) (hn : l.length * (b + sep.length) ≤ 16777216) : JoinOk sep l = true := by
  unfold JoinOk Builtin.Str.tooLong
  rw [List.foldl_toArray]
  have := foldl_len (sep := sep) l 0 h
  rw [sizeLine_eq]
  simp only [Bool.not_eq_true', decide_eq_false_iff_not, Nat.not_lt]
  omega
theorem join_plain {sep : Str} (hs : Plain sep) : ∀ l : List Str, (∀ x ∈ l, Plain x) → Plain (Str.join sep l)
  | [], _ => fun _ hc => by simp [Str.join, Str.empty] at hc
  | [x], h => h x (.head _)
  | x :: y :: r, h => plain_append (plain_append (h x (.head _)) hs) (join_plain hs (y :: r) fun z hz => h z (.tail _ hz))
theorem join_len {sep : Str} {b : Nat} {l : List Str} (h : ∀ x ∈ l, x.length ≤ b) : (Str.join sep l).length ≤ l.length * (b + sep.length) := by
  refine Nat.le_trans (StrLaws.join_length_le sep l) ?_
  have : (l.map (·.length)).sum ≤ l.length * b := by
    clear sep
    induction l with
    | nil => simp
    | cons x r ih =>
      have := h x (.head _)
      have := ih fun y hy => h y (.tail _ hy)
      simp only [List.map_cons, List.sum_cons, List.length_cons, Nat.add_mul, Nat.one_mul]
      omega
  rw [Nat.mul_add]; omega
theorem nat_plain (n : Nat) : ∀ c ∈ (Nat.repr n).toList, 48 ≤ c.toNat ∧ c.toNat ≤ 57 := by
  intro c hc
  have : (Nat.repr n).toList = Nat.toDigits 10 n := by simp [Nat.repr]
  rw [this] at hc
  have hd := Nat.isDigit_of_mem_toDigits (by decide) (by decide) hc
  simp only [Char.isDigit, Bool.and_eq_true, decide_eq_true_eq] at hd
  exact ⟨hd.1, hd.2⟩
theorem int_digits {z : Int} (h : 0 ≤ z) : ∀ c ∈ (Str.ofString (toString z)).cps.toList, 48 ≤ c ∧ c ≤ 57 := by
  obtain ⟨n, rfl⟩ : ∃ n : Nat, z = n := ⟨z.toNat, by omega⟩
  rw [Str.ofString_eq_toList]
  intro c hc
  simp only [List.mem_map] at hc
  obtain ⟨d, hd, rfl⟩ := hc
  exact nat_plain n d hd
theorem int_plain {z : Int} (h : 0 ≤ z) : Plain (Str.ofString (toString z)) := fun c hc => by
  have := int_digits h c hc
  omega
theorem fm_bounds (a : Int) {b : Int} (hb : 0 < b) (hk : b ≤ 1000000000000000000000000000000) : 0 ≤ a.fmod b ∧ a.fmod b < 1000000000000000000000000000000 :=
  ⟨Int.fmod_nonneg_of_pos _ hb, Int.lt_of_lt_of_le (Int.fmod_lt_of_pos _ hb) hk⟩
theorem fm_log {a b : Int} (hb : 0 < b) (hk : b ≤ 1000000000000000000000000000000) : (a.fmod b).natAbs.log2 < 1920 := by
  obtain ⟨h0, h1⟩ := fm_bounds a hb hk
  exact shown (N := 1000000000000000000000000000000) (by omega) h1 (by decide +kernel)
theorem fm_text {a b : Int} (hb : 0 < b) (hk : b ≤ 1000000000000000000000000000000) : (Str.ofString (toString (a.fmod b))).length ≤ 30 ∧ Plain (Str.ofString (toString (a.fmod b))) := by
  obtain ⟨h0, h1⟩ := fm_bounds a hb hk
  exact ⟨toString_length_le h0 (by decide) h1, int_plain h0⟩
theorem fm_text2 {a b : Int} (hb : 0 < b) (hk : b ≤ 100) : (Str.ofString (toString (a.fmod b))).length ≤ 2 ∧ Plain (Str.ofString (toString (a.fmod b))) := by
  have h0 := Int.fmod_nonneg_of_pos a hb
  have h1 := Int.fmod_lt_of_pos a hb
  exact ⟨toString_length_le h0 (by decide) (by omega), int_plain h0⟩
theorem fdiv_bounds {z b : Int} (h0 : 0 ≤ z) (h1 : z < 2 ^ 61) (hb : 0 < b) : 0 ≤ z.fdiv b ∧ z.fdiv b < 2 ^ 61 := by
  have e := Int.fdiv_eq_ediv_of_nonneg z (Int.le_of_lt hb)
  rw [e]
  refine ⟨Int.ediv_nonneg h0 (Int.le_of_lt hb), Int.lt_of_le_of_lt (Int.ediv_le_self b h0) h1⟩
theorem append_S {prog : Program} {w : World} {A : Around} {E : Value → Shared → Prop} {s : Shared} {h₀ : Heap} {L D : Addr} {m : Str → Option Value} {own : List (Addr × Obj)} {l : List (Str × Tok)} {c : Nat} {x : Str} {t : Tok} {Q : Value → Shared → Prop}
    (F : Fr h₀ L s.heap m) (N : News h₀ L s.heap ((D, listOf (strValues l).toArray c) :: own)) (hoff : ∀ p ∈ own, p.1 ≠ D) (hsz : l.length ≤ 1000)
    (h : ∀ h', Fr h₀ L h' m → News h₀ L h' ((D, listOf (strValues (l ++ [(x, t)])).toArray (c + 1)) :: own) → Q .none { s with heap := h' }) : wpAny (model prog w) A (call (.builtin "list.append") [.ref D, .str x t]) Q E s := by
  refine append_K F N (Upd.head hoff) (fun h' F' N' => h h' F' ?_) ?_
  · have e : (strValues (l ++ [(x, t)])).toArray = (strValues l).toArray.push (.str x t) := by simp [strValues]
    rw [e]; exact N'
  · have : (strValues l).toArray.size = l.length := by simp [strValues]
    rw [this, sizeLine_eq]; omega
theorem isListOf {prog_h h₀ : Heap} {L D : Addr} {items : Array Value} {n : Nat} {p : Prop} {q : Prop} (h : prog_h.get? D = some (listOf items n) ∧ p ∧ q) : prog_h.IsList D items := ⟨_, h.1, rfl, n, rfl⟩
theorem fm_toNat (a : Int) (b : Nat) (hb : 0 < b) : (a.fmod (b : Int)).toNat < b := by
  have h0 := Int.fmod_nonneg_of_pos a (show (0 : Int) < b by omega)
  have h1 := Int.fmod_lt_of_pos a (show (0 : Int) < b by omega)
  omega
theorem fm_toNat1 (a : Int) (b : Nat) (hb : 0 < b) : (a.fmod (b : Int) + 1).toNat ≤ b := by
  have h0 := Int.fmod_nonneg_of_pos a (show (0 : Int) < b by omega)
  have h1 := Int.fmod_lt_of_pos a (show (0 : Int) < b by omega)
  omega
theorem pick_list {prog : Program} {w : World} {A : Around} {E : Value → Shared → Prop} {s : Shared} {value slice : Expr} {l : Addr} {items : Array Value} {k : Int} {u : Tok} {Q : Value → Shared → Prop}
    (hl : s.heap.IsList l items) (h0 : 0 ≤ k) (h1 : k.toNat < items.size) (h2 : items.size ≤ 1000) (h : ∀ v ∈ items.toList, items[k.toNat]? = some v → Q v s)
    (hs : subscripted slice false (.ref l) (.int k u) = operate [.ref l, .int k u] (getItem (.ref l) (.int k u)) := by with_unfolding_all rfl) :
    wpAny (model prog w) A (subscriptTail value slice (.ref l) (.int k u)) Q E s := by
  have e : items[k.toNat]? = some items[k.toNat] := by simp [h1]
  exact tail_any hl.typeIs slot_list_getitem.lookup (wpAny_getItem_list hl h0 (by omega) e (h _ (by simp) e)) hs
theorem len_S {prog : Program} {w : World} {A : Around} {E : Value → Shared → Prop} {s : Shared} {h₀ : Heap} {L D : Addr} {news : List (Addr × Obj)} {l : List (Str × Tok)} {c : Nat} {Q : Value → Shared → Prop}
    (N : News h₀ L s.heap news) (hm : (D, listOf (strValues l).toArray c) ∈ news) (hsz : l.length ≤ 1000) (h : Q (.int l.length (s.toks + 1)) { s with toks := s.toks + 1 + 1 }) : wpAny (model prog w) A (call (.builtin "len") [.ref D]) Q E s := by
  have e : (strValues l).toArray.size = l.length := by simp [strValues]
  refine Calls.call_len_list (isListOf (h₀ := h₀) (L := L) (N _ hm)) (by rw [e]; omega) ?_
  rw [e]; exact h
theorem ownOff_one {own : List (Addr × Obj)} {D : Addr} (h : OwnOff own [D]) : ∀ p ∈ own, p.1 ≠ D := OwnOff.ne h (.head _)
theorem snoc_all {P : Str → Prop} {l : List (Str × Tok)} {x : Str} {t : Tok} (h : ∀ q ∈ l, P q.1) (hx : P x) : ∀ q ∈ l ++ [(x, t)], P q.1 := fun q hq => by
  rcases List.mem_append.mp hq with hq | hq
  · exact h q hq
  · rw [List.mem_singleton.mp hq]; exact hx
end Mine
end
section
set_option maxRecDepth 100000
namespace Mine
open PySem PySem.W PyProof.Rows PySem.Calls
section
variable {prog : Program} {w : World} {A : Around} {E : Value → Shared → Prop} {s : Shared} {h₀ : Heap} {L : Addr} {m : Str → Option Value} {news : List (Addr × Obj)} {env : Env}
theorem str_each {p : Str → Bool} {g : Str → Str} : ∀ {as : List Str} {vs : List Value}, AreOf .str vs as → ∀ {ys : List Value}, Paired (fun v r => ∃ a, ItemKind.str.is a v ∧ ∃ t, r = .str (g a) t) (vs.filter (ItemKind.str.lift p)) ys →
    ∃ l : List (Str × Tok), ys = strValues l ∧ l.map (·.1) = (as.filter p).map g
  | _, _, .nil, ys, h => by
    cases h
    exact ⟨[], rfl, rfl⟩
  | _, _, .cons (a := a) (as := as) (v := v) (vs := vs) ha hr, ys, h => by
    rw [List.filter_cons, ItemKind.lift_is ha] at h
    cases hp : p a with
    | false =>
      rw [hp, if_neg (by decide)] at h
      rw [List.filter_cons, hp, if_neg (by decide)]
      exact str_each hr h
    | true =>
      rw [hp, if_pos rfl] at h
      rw [List.filter_cons, hp, if_pos rfl]
      cases h with
      | cons h1 h2 =>
        obtain ⟨a', ha', t, rfl⟩ := h1
        obtain ⟨u, rfl⟩ := ha
        obtain ⟨u', e'⟩ := ha'
        cases e'
        obtain ⟨l, rfl, e⟩ := str_each hr h2
        exact ⟨(g a, t) :: l, rfl, by rw [List.map_cons, e]; rfl⟩
theorem comp_signs (p : Str → Bool) (g : Str → Str) {elt : Expr} {x : Str} {px pn : Pos} {nn : Str} {ifs : List Expr} {scope : Scope} {pos : Pos} {Q : Value → Shared → Prop} {y : Str} {t : Tok}
    (hh : A.handled = none) (hfree : ∀ y ∈ scope.names, y.2 ≠ .free) (hcell : ∀ y ∈ scope.names, y.2 ≠ .cell) (hkind : scope.kind = .function)
    (hnames : ∀ y ∈ scope.names, y.2 = .local → scope.names.lookup y.1 = some .local) (hx : scope.names.lookup x = some .local)
    (F : Fr h₀ L s.heap m) (N : News h₀ L s.heap news) (hsz : y.length ≤ sizeLine)
    (hit : ∀ {P : Value → Shared → Prop}, P (.str y t) s → wpAny (model prog w) A (eval (.Name nn pn) env) P E s)
    (htests : ∀ C a u s₂ m₂ E', s₂.heap.Ns (compEnv scope C env).locals m₂ → m₂ x = some (.str a u) → (∀ b o, s.heap.get? b = some o → s₂.heap.get? b = some o) → a ∈ signs y →
        wpAny (model prog w) A (forIn ifs true fun c r => if r = true then do let ok ← isTrue c (compEnv scope C env) (eval c (compEnv scope C env)); pure (ForInStep.yield ok) else pure (ForInStep.yield r))
          (fun ok s₃ => ok = p a ∧ Keeps s₂ s₃) E' s₂)
    (helt : ∀ C a u s₂ m₂ E', s₂.heap.Ns (compEnv scope C env).locals m₂ → m₂ x = some (.str a u) → (∀ b o, s.heap.get? b = some o → s₂.heap.get? b = some o) → a ∈ signs y →
        wpAny (model prog w) A (eval elt (compEnv scope C env)) (fun r s₃ => (∃ t, r = .str (g a) t) ∧ Keeps s₂ s₃) E' s₂)
    (hQ : ∀ D n (l : List (Str × Tok)) h' tk, Fr h₀ L h' m → News h₀ L h' ((D, listOf (strValues l).toArray n) :: news) → l.map (·.1) = ((signs y).filter p).map g → Q (.ref D) { s with heap := h', toks := tk })
    (hs : ∀ x, foldedSetIterable (.Name nn pn) env x = pure x := by intro _; with_unfolding_all rfl) :
    wpAny (model prog w) A (eval (.ListComp elt [⟨.Name x px, .Name nn pn, ifs, 0⟩] scope pos) env) Q E s := by
  refine wpAny_ListComp_walk (ItemKind.str.lift p) (fun v r => ∃ a, ItemKind.str.is a v ∧ ∃ t, r = .str (g a) t) hfree hcell hkind hnames hx
    (hit (wpAny_pyIter_str fun o St W hst => ?_)) hs
  have up : ∀ (h' : Heap), (∀ b o', b ∉ [s.heap.objs.size] → (s.heap.push o).get? b = some o' → h'.get? b = some o') → ∀ b o', s.heap.get? b = some o' → h'.get? b = some o' :=
    fun h' hk b o' e => hk b o' (old_not_new e) (Heap.get?_push_of_some _ e)
  have mem : ∀ {i : Nat} {c : Nat}, y.cps[i]? = some c → (⟨#[c]⟩ : Str) ∈ signs y := fun {i c} h => List.mem_map.mpr ⟨c, by rw [← Array.getElem?_toList] at h; exact List.mem_of_getElem? h, rfl⟩
  refine ⟨s.heap.objs.size, [s.heap.objs.size], [s.heap.objs.size], y.cps.size, SignAt y, St, rfl, W A hh, hsz, hst, ?_, ⟨?_, ?_⟩, ?_⟩
  · intro b hb
    show b < (s.heap.push o).objs.size
    rw [Heap.size_push, List.mem_singleton.mp hb]
    exact Nat.lt_succ_self _
  · intro C i v s₃ m₃ E' hP hn hm hk _
    obtain ⟨c, u, hc, rfl⟩ := hP
    have ha : ItemKind.str.is ⟨#[c]⟩ (.str ⟨#[c]⟩ u) := ⟨u, rfl⟩
    rw [ItemKind.lift_is ha]
    exact htests C _ _ s₃ m₃ E' hn hm (up _ hk) (mem hc)
  · intro C i v s₃ m₃ E' hP hp hn hm hk _
    obtain ⟨c, u, hc, rfl⟩ := hP
    have ha : ItemKind.str.is ⟨#[c]⟩ (.str ⟨#[c]⟩ u) := ⟨u, rfl⟩
    exact wpAny_mono (helt C _ _ s₃ m₃ E' hn hm (up _ hk) (mem hc)) (fun r s₄ h₄ => ⟨⟨_, ha, h₄.1⟩, h₄.2⟩) fun _ _ e => e
  · intro D h' tk ys vs hnew hlD hplD hlen hP hF hk
    obtain ⟨l, e1, e2⟩ := str_each (areOf_signs hlen hP) hF
    have e3 : ys = (strValues l).toArray := by rw [← e1, Array.toArray_toList]
    rw [e3] at hlD hplD
    have X : NewPlain h' news D (strValues l).toArray := ⟨hplD, fun p hp e => by rw [← e, Heap.get?_push_of_some _ (N p hp).1] at hnew; cases hnew⟩
    have FF := F.keeps (up h' hk)
    obtain ⟨n, hn⟩ := hplD
    refine hQ D n l h' tk FF (fun p hp => ?_) e2
    rcases List.mem_cons.mp hp with rfl | hp
    · refine ⟨hn, X.ne_locals FF, ?_⟩
      cases e : h₀.get? D with
      | none => rfl
      | some o' => rw [Heap.get?_push_of_some _ (F.keep _ _ e)] at hnew; cases hnew
    · exact N.grown (up h' hk) p hp
theorem eq_nil {D b : Addr} {l : List (Str × Tok)} {n k : Nat} {Q : Value → Shared → Prop} (N : News h₀ L s.heap news) (h1 : (D, listOf (strValues l).toArray n) ∈ news) (h2 : (b, listOf #[] k) ∈ news) (hu : A.units < cLine)
    (h : Q (.bool l.isEmpty) s) : wpAny (model prog w) A (compareOp .Eq (.ref D) (.ref b)) Q E s := by
  have hl := isListOf (h₀ := h₀) (L := L) (N _ h1)
  have hb := isListOf (h₀ := h₀) (L := L) (N _ h2)
  cases l with
  | nil => exact PySem.SeqAt.eq_listAt hl hb rfl hu (e := fun _ => true) (fun j h1 => absurd h1 (Nat.not_lt_zero _)) h
  | cons p r => exact PySem.SeqAt.eq_list_lengthsAt hl hb (by simp [strValues]) hu h
end
end Mine
end
section
set_option maxRecDepth 100000
namespace Mine
open PySem PySem.W PyProof.Rows PySem.Calls PySem.Builtin PySem.Builtin.Str
/-- a text's signs -/
def tx (x : Str) : List Nat := x.cps.toList
theorem tx_inj {x y : Str} (h : tx x = tx y) : x = y := Str.ext' (Array.toList_inj.mp h)
theorem tx_len (x : Str) : (tx x).length = x.length := by simp [tx, Str.length]
theorem tx_mk (l : List Nat) : tx ⟨l.toArray⟩ = l := by simp [tx]
theorem tx_append (x y : Str) : tx (x ++ y) = tx x ++ tx y := by
  show (x.cps ++ y.cps).toList = _
  rw [Array.toList_append]; rfl
theorem idx_clip (i j : Nat) (n : Nat) : strSliceIndices (some (i : Int)) (some (j : Int)) 1 n = strSliceIndices (some ((min i n : Nat) : Int)) (some ((max (min i n) (min j n) : Nat) : Int)) 1 n := by
  unfold strSliceIndices sliceRange
  have h1 : ¬ ((i : Int) < 0) := by omega
  have h2 : ¬ ((j : Int) < 0) := by omega
  have h3 : ¬ (((min i n : Nat) : Int) < 0) := by omega
  have h4 : ¬ (((max (min i n) (min j n) : Nat) : Int) < 0) := by omega
  simp only [show (1 : Int) > 0 by decide, if_true, if_neg h1, if_neg h2, if_neg h3, if_neg h4]
  have e1 : max (0 : Int) (min (i : Int) n) = ((min i n : Nat) : Int) := by omega
  have e2 : max (0 : Int) (min ((min i n : Nat) : Int) n) = ((min i n : Nat) : Int) := by omega
  rw [e1, e2]
  by_cases q : min i n < min j n
  · have e3 : max (0 : Int) (min ((max (min i n) (min j n) : Nat) : Int) n) = ((min j n : Nat) : Int) := by omega
    have e4 : max (0 : Int) (min (j : Int) n) = ((min j n : Nat) : Int) := by omega
    rw [e3, e4]
  · have f1 : ¬ (((min i n : Nat) : Int) < max (0 : Int) (min (j : Int) n)) := by omega
    have f2 : ¬ (((min i n : Nat) : Int) < max (0 : Int) (min ((max (min i n) (min j n) : Nat) : Int) n)) := by omega
    rw [if_neg f1, if_neg f2]
theorem slice_tx (x : Str) (i j : Nat) : tx (Txt.slice x (some (i : Int)) (some (j : Int))) = ((tx x).drop i).take (j - i) := by
  have e : Txt.slice x (some (i : Int)) (some (j : Int)) = StrLaws.sliceText x (some ((min i x.length : Nat) : Int)) (some ((max (min i x.length) (min j x.length) : Nat) : Int)) := by
    unfold Txt.slice StrLaws.sliceText
    rw [idx_clip]
  rw [e, StrLaws.sliceText_nat x (by omega) (by omega), tx_mk]
  show (((tx x).drop _).take _) = _
  have hl := tx_len x
  by_cases q : i ≤ x.length
  · rw [Nat.min_eq_left q]
    by_cases r : j ≤ x.length
    · rw [Nat.min_eq_left r]
      by_cases u : i ≤ j
      · rw [Nat.max_eq_right u]
      · rw [Nat.max_eq_left (by omega), show i - i = 0 by omega, show j - i = 0 by omega]
    · rw [Nat.min_eq_right (by omega), Nat.max_eq_right q, List.take_of_length_le (by rw [List.length_drop]; omega), List.take_of_length_le (by rw [List.length_drop]; omega)]
  · rw [Nat.min_eq_right (by omega), List.drop_of_length_le (by omega), List.drop_of_length_le (by omega)]
    simp
theorem slice_from (x : Str) (i : Nat) : tx (Txt.slice x (some (i : Int)) none) = (tx x).drop i := by
  have e : Txt.slice x (some (i : Int)) none = Txt.slice x (some (i : Int)) (some (x.length : Int)) := by
    unfold Txt.slice
    rw [StrLaws.sliceIdx_none_hi]
  rw [e, slice_tx, List.take_of_length_le (by rw [List.length_drop, tx_len]; omega)]
theorem slice_to (x : Str) (j : Nat) : tx (Txt.slice x none (some (j : Int))) = (tx x).take j := by
  have e : Txt.slice x none (some (j : Int)) = Txt.slice x (some ((0 : Nat) : Int)) (some (j : Int)) := by
    unfold Txt.slice
    rw [StrLaws.sliceIdx_none_lo]; rfl
  rw [e, slice_tx, List.drop_zero, Nat.sub_zero]
theorem item_tx {x : Str} {i : Nat} {c : Nat} (h : (tx x)[i]? = some c) : Txt.item x (i : Int) = ⟨#[c]⟩ := by
  have hi : i < x.length := by rw [← tx_len]; exact (List.getElem?_eq_some_iff.mp h).1
  have e : seqIndex? (i : Int) x.length = some i := by
    unfold seqIndex?
    have h1 : ¬ ((i : Int) < 0) := by omega
    simp only [if_neg h1]
    have e1 : decide (0 ≤ (i : Int)) = true := decide_eq_true (by omega)
    have e2 : decide ((i : Int) < (x.length : Int)) = true := decide_eq_true (by omega)
    rw [e1, e2]
    simp
  unfold Txt.item Txt.charAt
  rw [e]
  have : x.cps[i]? = some c := by rw [← Array.getElem?_toList]; exact h
  simp [this]
theorem figures_tx : tx (Str.ofString "0123456789") = [48, 49, 50, 51, 52, 53, 54, 55, 56, 57] := by decide +kernel
theorem in_figures (c : Nat) : (occurrences (Str.ofString "0123456789") ⟨#[c]⟩ 0 (Str.ofString "0123456789").length 1).isEmpty = !isDig c := by
  have h := StrLaws.found_one (Str.ofString "0123456789") c
  rw [show (Str.ofString "0123456789").cps.toList = [48, 49, 50, 51, 52, 53, 54, 55, 56, 57] from figures_tx] at h
  have e : decide (c ∈ [48, 49, 50, 51, 52, 53, 54, 55, 56, 57]) = isDig c := by
    unfold isDig
    by_cases q : 48 ≤ c ∧ c ≤ 57
    · rw [decide_eq_true (p := 48 ≤ c) q.1, decide_eq_true (p := c ≤ 57) q.2]
      have : c = 48 ∨ c = 49 ∨ c = 50 ∨ c = 51 ∨ c = 52 ∨ c = 53 ∨ c = 54 ∨ c = 55 ∨ c = 56 ∨ c = 57 := by omega
      simpa using this
    · have : ¬ (c ∈ [48, 49, 50, 51, 52, 53, 54, 55, 56, 57]) := by
        simp only [List.mem_cons, List.not_mem_nil, or_false]; omega
      rw [decide_eq_false this]
      by_cases r : 48 ≤ c
      · rw [decide_eq_false (p := c ≤ 57) (by omega), Bool.and_false]
      · rw [decide_eq_false r, Bool.false_and]
  rw [e] at h
  rw [← h, Bool.not_not]
theorem takeWhile_len {p : Nat → Bool} : ∀ {s : List Nat} {k : Nat}, (s.take k).all p = true → (k = s.length ∨ ∃ c, s[k]? = some c ∧ p c = false) → (s.takeWhile p).length = k
  | [], k, _, h => by
    rcases h with h | ⟨c, h, _⟩
    · rw [h]; rfl
    · simp at h
  | x :: s, 0, _, h => by
    rcases h with h | ⟨c, h, hc⟩
    · simp at h
    · simp at h; subst h; rw [List.takeWhile_cons, hc]; rfl
  | x :: s, k + 1, ha, h => by
    rw [List.take_succ_cons, List.all_cons, Bool.and_eq_true] at ha
    rw [List.takeWhile_cons, ha.1, if_pos rfl, List.length_cons, takeWhile_len ha.2 ?_]
    rcases h with h | ⟨c, h, hc⟩
    · exact .inl (by simpa using h)
    · exact .inr ⟨c, by simpa using h, hc⟩
theorem drop_takeWhile (p : Nat → Bool) : ∀ s : List Nat, s.drop (s.takeWhile p).length = s.dropWhile p
  | [] => rfl
  | x :: s => by
    cases h : p x with
    | true => rw [List.takeWhile_cons, if_pos h, List.dropWhile_cons, if_pos h, List.length_cons, List.drop_succ_cons, drop_takeWhile p s]
    | false => rw [List.takeWhile_cons, if_neg (by rw [h]; decide), List.dropWhile_cons, if_neg (by rw [h]; decide)]; rfl
theorem take_takeWhile (p : Nat → Bool) : ∀ s : List Nat, s.take (s.takeWhile p).length = s.takeWhile p
  | [] => rfl
  | x :: s => by
    cases h : p x with
    | true => rw [List.takeWhile_cons, if_pos h, List.length_cons, List.take_succ_cons, take_takeWhile p s]
    | false => rw [List.takeWhile_cons, if_neg (by rw [h]; decide)]; rfl
/-- the numbers that open a text, at most n, and what stands behind them -/
def openL : Nat → List Nat → List (List Nat) × List Nat
  | 0, s => ([], s)
  | n + 1, s =>
    if (s.takeWhile isDig).isEmpty then ([], s) else
    if n = 0 then ([s.takeWhile isDig], s.dropWhile isDig) else
    match s.dropWhile isDig with
    | 46 :: c :: t => if isDig c then (s.takeWhile isDig :: (openL n (c :: t)).1, (openL n (c :: t)).2) else ([s.takeWhile isDig], s.dropWhile isDig)
    | _ => ([s.takeWhile isDig], s.dropWhile isDig)
theorem openL_none {n : Nat} {s : List Nat} (hn : 0 < n) (h : s.takeWhile isDig = []) : openL n s = ([], s) := by
  obtain ⟨n, rfl⟩ : ∃ k, n = k + 1 := ⟨n - 1, by omega⟩
  rw [openL, h]; rfl
theorem openL_last {s : List Nat} (h : s.takeWhile isDig ≠ []) : openL 1 s = ([s.takeWhile isDig], s.dropWhile isDig) := by
  rw [openL, if_neg (by simpa using h), if_pos rfl]
theorem openL_stop {n : Nat} {s : List Nat} (hn : 0 < n) (h : s.takeWhile isDig ≠ []) (hr : ∀ c t, s.dropWhile isDig = 46 :: c :: t → isDig c = false) : openL n s = ([s.takeWhile isDig], s.dropWhile isDig) := by
  obtain ⟨n, rfl⟩ : ∃ k, n = k + 1 := ⟨n - 1, by omega⟩
  rw [openL, if_neg (by simpa using h)]
  split
  · rfl
  · split
    · rename_i c t q
      rw [if_neg (by rw [hr c t q]; decide)]
    · rfl
theorem openL_go {n : Nat} {s t : List Nat} {c : Nat} (hn : 0 < n) (h : s.takeWhile isDig ≠ []) (hr : s.dropWhile isDig = 46 :: c :: t) (hc : isDig c = true) : openL (n + 1) s = (s.takeWhile isDig :: (openL n (c :: t)).1, (openL n (c :: t)).2) := by
  rw [openL, if_neg (by simpa using h), if_neg (by omega), hr]
  simp only [hc, if_true]
theorem slice_one (x : Str) (k : Nat) : tx (Txt.slice x (some (k : Int)) (some ((k : Int) + 1))) = ((tx x).drop k).take 1 := by
  rw [show (k : Int) + 1 = ((k + 1 : Nat) : Int) by omega, slice_tx, Nat.add_sub_cancel_left]
theorem slice_two (x : Str) (k : Nat) : tx (Txt.slice x (some ((k : Int) + 1)) (some ((k : Int) + 2))) = ((tx x).drop (k + 1)).take 1 := by
  rw [show (k : Int) + 1 = ((k + 1 : Nat) : Int) by omega, show (k : Int) + 2 = ((k + 2 : Nat) : Int) by omega, slice_tx, show k + 2 - (k + 1) = 1 by omega]
theorem ne_str {x y : Str} : (x != y) = !decide (tx x = tx y) := by
  by_cases h : x = y
  · subst h; simp
  · rw [decide_eq_false fun e => h (tx_inj e)]
    simpa using h
theorem in_figlist (y : Str) : ((signs (Str.ofString "0123456789")).map PyData.str).any (datHitsStr y) = match tx y with | [c] => isDig c | _ => false := by
  have e : signs (Str.ofString "0123456789") = [⟨#[48]⟩, ⟨#[49]⟩, ⟨#[50]⟩, ⟨#[51]⟩, ⟨#[52]⟩, ⟨#[53]⟩, ⟨#[54]⟩, ⟨#[55]⟩, ⟨#[56]⟩, ⟨#[57]⟩] := by decide +kernel
  have one : ∀ c : Nat, ((⟨#[c]⟩ : Str) == y) = decide (tx y = [c]) := fun c => by
    by_cases h : (⟨#[c]⟩ : Str) = y
    · subst h; simp [tx]
    · rw [decide_eq_false fun q => h (tx_inj (by rw [q]; rfl))]
      simpa using h
  rw [e]
  simp only [List.map_cons, List.map_nil, List.any_cons, List.any_nil, datHitsStr, one, Bool.or_false]
  split
  · rename_i c q
    rw [q]
    simp only [List.cons.injEq, and_true]
    have h := in_figures c
    unfold isDig
    by_cases r : 48 ≤ c ∧ c ≤ 57
    · have : c = 48 ∨ c = 49 ∨ c = 50 ∨ c = 51 ∨ c = 52 ∨ c = 53 ∨ c = 54 ∨ c = 55 ∨ c = 56 ∨ c = 57 := by omega
      rcases this with rfl | rfl | rfl | rfl | rfl | rfl | rfl | rfl | rfl | rfl <;> rfl
    · have f : ∀ k, 48 ≤ k → k ≤ 57 → decide (c = k) = false := fun k a b => decide_eq_false (by omega)
      rw [f 48, f 49, f 50, f 51, f 52, f 53, f 54, f 55, f 56, f 57] <;> try decide
      simp only [Bool.or_false]
      by_cases r1 : 48 ≤ c
      · rw [decide_eq_false (p := c ≤ 57) (by omega), Bool.and_false]
      · rw [decide_eq_false r1, Bool.false_and]
  · rename_i q
    have f : ∀ k, decide (tx y = [k]) = false := fun k => decide_eq_false fun r => q k r
    simp only [f, Bool.or_false]
theorem drop_rest (X : List Nat) (a : Nat) : X.drop (a + ((X.drop a).takeWhile isDig).length) = (X.drop a).dropWhile isDig := by
  rw [← drop_takeWhile isDig (X.drop a), List.drop_drop]
theorem ne_nil_of {X : List Nat} {a : Nat} (h : ((a + ((X.drop a).takeWhile isDig).length : Nat) : Int) ≠ a) : (X.drop a).takeWhile isDig ≠ [] := fun e => h (by rw [e]; simp)
theorem nil_of {X : List Nat} {a : Nat} (h : ((a + ((X.drop a).takeWhile isDig).length : Nat) : Int) = a) : (X.drop a).takeWhile isDig = [] := List.length_eq_zero_iff.mp (by omega)
theorem len_drop_le (X : List Nat) (a : Nat) (h : a ≤ X.length) : a + ((X.drop a).takeWhile isDig).length ≤ X.length := by
  have := (List.takeWhile_sublist isDig (l := X.drop a)).length_le
  rw [List.length_drop] at this; omega
theorem row_tx (x : Str) (a : Nat) : tx (Txt.slice x (some (a : Int)) (some ((a + (((tx x).drop a).takeWhile isDig).length : Nat) : Int))) = ((tx x).drop a).takeWhile isDig := by
  rw [slice_tx, Nat.add_sub_cancel_left, take_takeWhile]
theorem dot_digit {X : List Nat} {a : Nat} (h3 : (!decide (((X.drop a).dropWhile isDig).take 1 = [46])) = false)
    (h4 : (match (X.drop (a + ((X.drop a).takeWhile isDig).length + 1)).take 1 with | [c] => isDig c | _ => false) = true) :
    ∃ c t, (X.drop a).dropWhile isDig = 46 :: c :: t ∧ isDig c = true ∧ X.drop (a + ((X.drop a).takeWhile isDig).length + 1) = c :: t := by
  have e : X.drop (a + ((X.drop a).takeWhile isDig).length + 1) = ((X.drop a).dropWhile isDig).drop 1 := by
    rw [← drop_rest, List.drop_drop]
  rw [e] at h4 ⊢
  generalize (X.drop a).dropWhile isDig = r at h3 h4
  match r with
  | [] => simp at h3
  | [q] => simp at h4
  | q :: c :: t =>
    simp at h3 h4
    subst h3
    exact ⟨c, t, rfl, h4, rfl⟩
theorem dot_other {X : List Nat} {a : Nat}
    (h4 : (match (X.drop (a + ((X.drop a).takeWhile isDig).length + 1)).take 1 with | [c] => isDig c | _ => false) = false) :
    ∀ c t, (X.drop a).dropWhile isDig = 46 :: c :: t → isDig c = false := by
  intro c t h
  have e : X.drop (a + ((X.drop a).takeWhile isDig).length + 1) = ((X.drop a).dropWhile isDig).drop 1 := by
    rw [← drop_rest, List.drop_drop]
  rw [e, h] at h4
  simpa using h4
/-- texts joined by a sign -/
def joinL (c : Nat) : List (List Nat) → List Nat
  | [] => []
  | [x] => x
  | x :: y :: r => x ++ c :: joinL c (y :: r)
/-- a text cut at a sign -/
def splitL (c : Nat) : List Nat → List (List Nat)
  | [] => [[]]
  | d :: r => if d = c then [] :: splitL c r else match splitL c r with
    | [] => [[d]]
    | h :: t => (d :: h) :: t
theorem splitL_free {c : Nat} : ∀ {p : List Nat}, c ∉ p → splitL c p = [p]
  | [], _ => rfl
  | d :: r, h => by
    rw [splitL, if_neg (fun e : d = c => h (e ▸ List.Mem.head _)), splitL_free fun m => h (List.Mem.tail _ m)]
theorem splitL_app {c : Nat} {r : List Nat} : ∀ {p : List Nat}, c ∉ p → splitL c (p ++ c :: r) = p :: splitL c r
  | [], _ => by rw [List.nil_append, splitL, if_pos rfl]
  | d :: p, h => by
    rw [List.cons_append, splitL, if_neg (fun e : d = c => h (e ▸ List.Mem.head _)), splitL_app fun m => h (List.Mem.tail _ m)]
theorem splitL_join {c : Nat} : ∀ {l : List (List Nat)}, l ≠ [] → (∀ p ∈ l, c ∉ p) → splitL c (joinL c l) = l
  | [], h, _ => absurd rfl h
  | [x], _, h => splitL_free (h x (.head _))
  | x :: y :: r, _, h => by
    rw [joinL, splitL_app (h x (.head _)), splitL_join (List.cons_ne_nil _ _) fun p hp => h p (.tail _ hp)]
theorem tx_join {y : Str} {c : Nat} (hy : tx y = [c]) : ∀ l : List Str, tx (Str.join y l) = joinL c (l.map tx)
  | [] => rfl
  | [x] => rfl
  | x :: z :: r => by
    show tx (x ++ y ++ Str.join y (z :: r)) = tx x ++ c :: joinL c ((z :: r).map tx)
    rw [tx_append, tx_append, hy, tx_join hy (z :: r), List.append_assoc]; rfl
theorem tx_split (x y : Str) (c : Nat) (hy : tx y = [c]) (hne : Txt.split x y ≠ []) : (Txt.split x y).map tx = splitL c (tx x) := by
  have ey : y = ⟨#[c]⟩ := tx_inj hy
  have h := StrLaws.join_split x y
  have e : tx x = joinL c ((Txt.split x y).map tx) := by rw [← tx_join hy, h]
  rw [e, splitL_join]
  · simpa using hne
  · intro p hp
    obtain ⟨z, hz, rfl⟩ := List.mem_map.mp hp
    subst ey
    exact StrLaws.split_free x c z hz
/-- an identifier that is refused -/
def badI (b : Bool) (y : List Nat) : Bool := y.isEmpty || (b && (decide (1 < y.length) && ((y.head? == some 48) && y.all isDig)))
/-- a part that is refused -/
def wrongL (b : Bool) (x : List Nat) : Bool := (splitL 46 x).any (badI b)
end Mine
end
section
set_option maxRecDepth 100000
namespace Mine
open PySem PySem.W PyProof.Rows PySem.Calls PySem.Builtin PySem.Builtin.Str
theorem split_tx (x y : Str) (c : Nat) (hy : tx y = [c]) : (Txt.split x y).map tx = splitL c (tx x) :=
  tx_split x y c hy (fun e => by have := PyProof.Rows.split_pos x y; rw [e] at this; exact absurd this (by decide))
theorem eq_str {x y : Str} : (x == y) = decide (tx x = tx y) := by
  have := ne_str (x := x) (y := y)
  rw [bne, Bool.not_inj_iff] at this
  exact this
theorem tx_nil : tx (Str.ofString "") = [] := by decide +kernel
theorem bad_empty {b : Bool} {y : Str} (h : (y == Str.ofString "") = true) : badI b (tx y) = true := by
  rw [eq_str, tx_nil, decide_eq_true_eq] at h
  rw [h]; rfl
theorem head_item {y : Str} (h : (y == Str.ofString "") = false) : (Txt.item y 0 == Str.ofString "0") = ((tx y).head? == some 48) := by
  rw [eq_str, tx_nil] at h
  have hy : tx y ≠ [] := of_decide_eq_false h
  obtain ⟨c, r, e⟩ := List.exists_cons_of_ne_nil hy
  rw [show (0 : Int) = ((0 : Nat) : Int) from rfl, item_tx (c := c) (by rw [e]; rfl), eq_str, show tx (Str.ofString "0") = [48] by decide +kernel, e]
  show decide ([c] = [48]) = _
  rw [Bool.eq_iff_iff]
  simp
theorem none_left {y : Str} {l : List (Str × Tok)} (h : l.map (fun x => x.1) = List.map (fun a => a) ((signs y).filter fun a => (occurrences (Str.ofString "0123456789") a 0 (Str.ofString "0123456789").length 1).isEmpty)) : l.isEmpty = (tx y).all isDig := by
  have h1 : l.isEmpty = ((signs y).filter fun a => (occurrences (Str.ofString "0123456789") a 0 (Str.ofString "0123456789").length 1).isEmpty).isEmpty := by
    rw [List.map_id'] at h
    rw [← h, List.isEmpty_map]
  rw [h1]
  unfold signs
  rw [List.filter_map, List.isEmpty_map]
  show (List.filter (fun c => (occurrences (Str.ofString "0123456789") ⟨#[c]⟩ 0 (Str.ofString "0123456789").length 1).isEmpty) (tx y)).isEmpty = _
  induction tx y with
  | nil => rfl
  | cons c r ih =>
    rw [List.filter_cons, in_figures, List.all_cons]
    cases isDig c with
    | true => exact ih
    | false => rfl
theorem bad_of {b : Bool} {y : Str} (h0 : (y == Str.ofString "") = false) : badI b (tx y) = (b && (decide (1 < y.length) && ((Txt.item y 0 == Str.ofString "0") && (tx y).all isDig))) := by
  rw [head_item h0]
  rw [eq_str, tx_nil] at h0
  unfold badI
  rw [tx_len]
  have : (tx y).isEmpty = false := by simpa using of_decide_eq_false h0
  rw [this, Bool.false_or]
theorem wrong_snoc {l : List (Str × Tok)} {i : Nat} {b : Bool} {y : Str} {ty : Tok} (hv : (strValues l).toArray[i]? = some (.str y ty)) (h : ((l.take i).all fun q => !badI b (tx q.1)) = true) (h2 : badI b (tx y) = false) :
    ((l.take (i + 1)).all fun q => !badI b (tx q.1)) = true := by
  simp only [strValues, List.getElem?_toArray, List.getElem?_map, Option.map_eq_some_iff] at hv
  obtain ⟨q, hq, e⟩ := hv
  cases e
  rw [List.take_succ, hq, List.all_append, h]
  simp [h2]
theorem wrong_yes {x y : Str} {b : Bool} (hy : y ∈ Txt.split x (Str.ofString ".")) (h : badI b (tx y) = true) : wrongL b (tx x) = true := by
  unfold wrongL
  rw [← split_tx x (Str.ofString ".") 46 (by decide +kernel), List.any_map]
  exact List.any_eq_true.mpr ⟨y, hy, h⟩
theorem wrong_no {x : Str} {l : List (Str × Tok)} {b : Bool} (hm : l.map (fun q => q.1) = Txt.split x (Str.ofString ".")) (h : ((l.take l.length).all fun q => !badI b (tx q.1)) = true) : wrongL b (tx x) = false := by
  unfold wrongL
  rw [← split_tx x (Str.ofString ".") 46 (by decide +kernel), ← hm, List.any_map, List.any_map]
  rw [List.take_length] at h
  rw [List.any_eq_false]
  intro q hq e
  have := List.all_eq_true.mp h q hq
  simp only [Function.comp_def] at e
  rw [e] at this
  cases this
end Mine
end
section
set_option maxRecDepth 100000
namespace Mine
open PySem PySem.W PyProof.Rows PySem.Calls
section
variable {w : World} {loose : List Str} {mg mb : Str → Option Value} {mean : ExcName → Option Value} {A : Around} {s : Shared} {R : Result → Shared → Prop}
/-- a class of the program is called: the object is made, its __init__ runs -/
theorem makeC {C fI : Addr} {rest : List Value} {kw : List (Str × Value)} (X : Ctx w loose mg mb mean s.heap) (hm : makesIn (KK w.params) C = true)
    (hi : findIn (KK w.params) (.ref C) "__init__" = some (some (.ref fI))) (hf : typeIn (KK w.params) (.ref fI) = some (.type "function"))
    (h : codeAny (model PR w) (A.under (.builtin "type.__call__" ⟨.ref C :: rest, kw⟩)) (.call (.ref fI) ⟨.ref (s.heap.objs.size + 1) :: rest, kw⟩) (InitBack (s.heap.objs.size + 1) R) { s with heap := (s.heap.push emptyDict).push (instObj C s.heap.objs.size) }) :
    codeAny (model PR w) A (.call (.ref C) ⟨rest, kw⟩) R s := by
  obtain ⟨hh, g, d, t, os⟩ := s
  exact make_core (makes_of X.K hm) (looks_findIn X.K hi) (fun self => bind_fn X.K self hf) (.inl rfl) h
/-- what a made object's __init__ finds -/
theorem made_ground {h h₁ : Heap} {C : Addr} {L : Addr} {m : Str → Option Value} (F : Fr ((h.push emptyDict).push (instObj C h.objs.size)) L h₁ m) :
    Fr h L h₁ m ∧ News h L h₁ [(h.objs.size + 1, instObj C h.objs.size), (h.objs.size, emptyDict)] := by
  have e1 : ∀ b o, h.get? b = some o → ((h.push emptyDict).push (instObj C h.objs.size)).get? b = some o := fun b o e => Heap.get?_push_of_some _ (Heap.get?_push_of_some _ e)
  have sz : ((h.push emptyDict).push (instObj C h.objs.size)).objs.size = h.objs.size + 2 := by rw [Heap.size_push, Heap.size_push]
  have ab := F.above
  rw [sz] at ab
  refine ⟨⟨F.ns, fun b o e => F.keep b o (e1 b o e), by omega⟩, fun p hp => ?_⟩
  rcases List.mem_cons.mp hp with rfl | hp
  · refine ⟨F.keep _ _ (by have := Heap.get?_push_size (h.push emptyDict) (o := instObj C h.objs.size) rfl; rw [Heap.size_push] at this; exact this), by show h.objs.size + 1 ≠ L; omega, Heap.get?_none_of_le (Nat.le_succ _)⟩
  · rw [List.mem_singleton.mp hp]
    exact ⟨F.keep _ _ (Heap.get?_push_of_some _ (Heap.get?_push_size h (o := emptyDict) rfl)), by show h.objs.size ≠ L; omega, Heap.get?_none_of_le (Nat.le_refl _)⟩
end
end Mine
namespace Mine
open PySem PySem.W PyProof.Rows PySem.Calls PySem.NumText
/-- the number that figures tell -/
def numL (l : List Nat) : Int := (digitsVal l : Nat)
section
variable {prog : Program} {w : World} {A : Around} {E : Value → Shared → Prop} {s : Shared} {Q : Value → Shared → Prop} {x : PySem.Str} {t : Tok}
theorem call_int (hp : ∀ c ∈ tx x, isDig c = true) (hne : tx x ≠ []) (hx : x.length ≤ 300) (h : Q (.int (numL (tx x)) s.toks) { s with toks := s.toks + 1 }) : wpAny (model prog w) A (call (.type "int") [.str x t]) Q E s := by
  refine KIN.call_text (intText_digits (fun c hc => ?_) hne (Nat.le_trans hx (by decide))) (Nat.le_trans hx (by decide)) h
  have := hp c hc
  unfold isDig at this
  simpa using this
end
end Mine
end
section
set_option maxRecDepth 100000
namespace Mine
open PySem PySem.W PyProof.Rows PySem.Calls PySem.Builtin
theorem foldl_bytes : ∀ (l : List Nat) (acc : Array UInt8), (l.foldl (fun acc y => acc ++ (_codecs.asciiCodec.bytesOf y).toArray) acc).size = acc.size + l.length
  | [], acc => rfl
  | c :: l, acc => by
    rw [List.foldl_cons, foldl_bytes l, Array.size_append, List.length_cons]
    show acc.size + 1 + l.length = _
    omega
theorem all_good {x : Str} (hp : ∀ c ∈ tx x, c < 128) : (x.cps.extract 0).findIdx? _codecs.asciiCodec.bad = none := by
  rw [Array.findIdx?_eq_none_iff]
  intro c hc
  have : c ∈ x.cps := by
    rw [Array.mem_extract_iff_getElem] at hc
    obtain ⟨k, hk, e⟩ := hc
    rw [← e]; exact Array.getElem_mem _
  have := hp c (by show c ∈ x.cps.toList; exact Array.mem_toList_iff.mpr this)
  show decide (c ≥ 128) = false
  exact decide_eq_false (by omega)
section
variable {prog : Program} {w : World} {A : Around} {E : Value → Shared → Prop} {s : Shared}
theorem wpAny_narrow {Q : Array UInt8 → Shared → Prop} {id : String} {self : Value} {x : Str} (hx : x.length ≤ 1000) (hp : ∀ c ∈ tx x, c < 128) (h : ∀ out : Array UInt8, out.size ≤ 1000 → Q out s) : wpAny (model prog w) A (_codecs.encodeNarrow id _codecs.asciiCodec none self x) Q E s := by
  unfold _codecs.encodeNarrow
  simp only [Std.Legacy.Range.forIn_eq_forIn_range']
  refine wpAny_bind (wpAny_forIn_list _ (fun _ (r : Nat × Array UInt8 × _codecs.Faults) s' => s' = s ∧ r.2.1.size ≤ 1000 ∧ (r.1 = 0 ∧ r.2.1 = #[] ∨ r.1 = x.cps.size)) _ ?_ ?_ _ _ ⟨rfl, Nat.zero_le _, .inl ⟨rfl, rfl⟩⟩)
  · rintro k rest ⟨i, out, st⟩ s' ⟨rfl, ho, hi⟩
    dsimp only at ho hi ⊢
    rw [if_neg (show ¬ out.size > sizeLine from Nat.not_lt.mpr (Nat.le_trans ho (by decide)))]
    rcases hi with ⟨rfl, rfl⟩ | rfl
    · cases hc : x.cps[0]? with
      | none =>
        refine wpAny_pure ?_
        exact wpAny_pure (h _ (Nat.zero_le _))
      | some c =>
        have hcm : c ∈ tx x := by
          show c ∈ x.cps.toList
          rw [← Array.getElem?_toList] at hc
          exact List.mem_of_getElem? hc
        have hb : (!_codecs.asciiCodec.bad c) = true := by
          show (!decide (c ≥ 128)) = true
          rw [decide_eq_false (by have := hp c hcm; omega)]; rfl
        dsimp only
        rw [if_pos hb]
        refine wpAny_pure ?_
        have hxs : x.cps.size ≤ 1000 := hx
        have e0 : (x.cps.extract 0).size = x.cps.size := by rw [Array.size_extract]; omega
        refine ⟨rfl, ?_, .inr ?_⟩
        · dsimp only
          rw [all_good hp]
          rw [← Array.foldl_toList, foldl_bytes, Array.length_toList, Array.size_extract]
          show 0 + _ ≤ 1000
          omega
        · dsimp only
          rw [all_good hp]
          show 0 + (x.cps.extract 0).size = _
          rw [e0]; omega
    · have hc : x.cps[x.cps.size]? = none := by simp
      rw [hc]
      refine wpAny_pure ?_
      exact wpAny_pure (h _ ho)
  · rintro ⟨i, out, st⟩ s' ⟨rfl, ho, hi⟩
    exact wpAny_pure (h out ho)
theorem bind_enc (v : Value) : Builtin.Str.bindOptional "str.encode" "encode" 0 ["encoding", "errors"] [v] [] = pure [some v, none] := by kernel_rfl
theorem arg_enc (u : Tok) : Builtin.Str.codecArg "str.encode" "encode" "'encoding'" (some (.str (Str.ofString "ascii") u)) = pure (some (Str.ofString "ascii")) := by kernel_rfl
theorem road_enc (id : String) (self : Value) (x : Str) : _codecs.encodeRoad id self x (Str.ofString "ascii") none = (do mkBytes (← _codecs.encodeNarrow id _codecs.asciiCodec none self x)) := by
  unfold _codecs.encodeRoad
  rw [show (_codecs.normalName (Str.ofString "ascii")).toString = "ascii" from by decide +kernel]
  first | rfl | simp | kernel_rfl
theorem call_encode {x : Str} {t u : Tok} {Q : Value → Shared → Prop} (hx : x.length ≤ 1000) (hp : ∀ c ∈ tx x, c < 128) (h : ∀ v tk, Q v { s with toks := tk }) :
    wpAny (model prog w) A (call (.builtin "str.encode") [.str x t, .str (Str.ofString "ascii") u]) Q E s := by
  refine wpAny_call_entry F.slot_str_encode (typeIs_str _ _ _) F.entry_str_encode ?_ (F.args_str_encode_2 _ _)
  unfold Builtin.«str.encode»
  refine wpAny_bind (wpAny_pure ?_)
  dsimp only
  rw [bind_enc]
  refine wpAny_bind (wpAny_pure ?_)
  dsimp only
  rw [arg_enc]
  refine wpAny_bind (wpAny_pure ?_)
  refine wpAny_bind (wpAny_pure ?_)
  show wpAny _ _ (_codecs.encodeRoad "str.encode" (Value.str x t) x (Str.ofString "ascii") none >>= fun a => ret a) _ _ _
  rw [road_enc]
  refine wpAny_bind (wpAny_bind (wpAny_narrow hx hp fun out ho => ?_))
  unfold mkBytes
  rw [if_neg (show ¬ out.size > sizeLine from Nat.not_lt.mpr (Nat.le_trans ho (by decide)))]
  exact fun _ _ _ => wpAny_pure ⟨_, rfl, h (.bytes out s.toks) (s.toks + 1)⟩
end
end Mine
end
section
set_option maxRecDepth 100000
local macro_rules | `(tactic| k_steps) => `(tactic| ((try dsimp only); repeat' (first | ((fail_if_success (with_reducible show PySem.wpAny _ _ (PySem.pyIter (PySem.Value.ref _)) _ _ _)); (fail_if_success (with_reducible show PySem.wpAny _ _ (PySem.call (PySem.Value.type "int") [PySem.Value.str _ _]) _ _ _)); (fail_if_success (with_reducible show PySem.wpAny _ _ (PySem.exec (PySem.Stmt.While _ _ _ _) _) _ _ _)); first | (with_reducible refine PySem.wpAny_execs_cons ?_) | ((try dsimp only); walk1)) | fail "no step")))
local macro_rules | `(tactic| tb_rel) => `(tactic| ((try dsimp only); repeat' (first | ((fail_if_success (with_reducible show PySem.wpAny _ _ (PySem.exec (PySem.Stmt.If _ _ _ _) _) _ _ _)); (fail_if_success (with_reducible show PySem.wpAny _ _ (PySem.pyIter (PySem.Value.ref _)) _ _ _)); (fail_if_success (with_reducible show PySem.wpAny _ _ (PySem.call (PySem.Value.type "int") [PySem.Value.str _ _]) _ _ _)); (fail_if_success (with_reducible show PySem.wpAny _ _ (PySem.exec (PySem.Stmt.While _ _ _ _) _) _ _ _)); first | (with_reducible refine PySem.wpAny_execs_cons ?_) | ((try dsimp only); walk1)) | fail "no step")))
namespace Mine
open PySem PySem.W PyProof.Rows PySem.Calls
local macro_rules | `(tactic| tb_start) => `(tactic| (have X := Ctx.K (by assumption); revert X; delta PR; k_fill; intro X; refine' enter (by assumption) (by k_is) (by k_is) (Nat.lt_trans (by assumption) (by decide)) ?hb (locs ?hl) ?_ rfl rfl rfl (by decide)))
variable {w : World} {loose : List Str} {mg mb : Str → Option Value} {mean : ExcName → Option Value} {A : Around} {s : Shared} {E : Value → Shared → Prop}
theorem uni_digit : ∀ c, c < 128 → Unicode.isDigit c = isDig c := by decide +kernel
theorem isdigit_tx {x : Str} (hp : ∀ c ∈ tx x, c < 128) : Txt.isdigit x = (!(tx x).isEmpty && (tx x).all isDig) := by
  show (decide (x.length > 0) && x.cps.all Unicode.isDigit) = _
  have e1 : decide (x.length > 0) = !(tx x).isEmpty := by
    rw [← tx_len]
    cases tx x <;> simp
  have e2 : x.cps.all Unicode.isDigit = (tx x).all isDig := by
    rw [← Array.all_toList]
    show (tx x).all Unicode.isDigit = _
    have : ∀ l : List Nat, (∀ c ∈ l, c < 128) → l.all Unicode.isDigit = l.all isDig := by
      intro l
      induction l with
      | nil => intro _; rfl
      | cons a r ih =>
        intro h
        rw [List.all_cons, List.all_cons, ih fun c hc => h c (.tail _ hc), uni_digit a (h a (.head _))]
    exact this _ hp
  rw [e1, e2]
set_option maxHeartbeats 4000000 in
theorem hlz_spec (C : Ctx w loose mg mb mean s.heap) (hd : A.depth < 459) (hh : A.handled = none) {x : Str} {tx' : Tok} (hx : x.length ≤ 300) (hne : tx x ≠ []) (hz : (tx x).head? = some 48 → tx x = [48]) :
    codeAny (model PR w) A (.call (.ref 65) ⟨[.str x tx'], []⟩) (Ret s fun v _ => v = .bool false) s := by
  tb_start
  case hb => exact BindsTo.of_eq (binds := [("value", .str x tx')]) rfl
  case hl => rfl
  intro L h₁ tk hL htk F C'
  have T := C.T
  have N : News s.heap L h₁ [] := News.nil
  k_steps
  have ne0 : (x == Str.ofString "") = false := by rw [eq_str, tx_nil]; exact decide_eq_false hne
  · refine Ret.intro ?_ F.keep
    have h0 := head_item ne0
    rw [‹(Txt.item x 0 == _) = true›] at h0
    have := hz (eq_of_beq h0.symm)
    rw [ne_str, this, show tx (Str.ofString "0") = [48] by decide +kernel]
    simp []
  · refine Ret.intro ?_ F.keep
    rw [‹Txt.isdigit x = false›]
  · refine Ret.intro ?_ F.keep
    rw [‹(Txt.item x 0 == _) = false›]
  · exfalso
    have : x.length = 0 := by omega
    rw [← tx_len] at this
    exact hne (List.length_eq_zero_iff.mp this)
set_option maxHeartbeats 4000000 in
theorem hlzN_spec (C : Ctx w loose mg mb mean s.heap) (hd : A.depth < 459) (hh : A.handled = none)  :
    codeAny (model PR w) A (.call (.ref 65) ⟨[.none], []⟩) (Ret s fun v _ => v = .none) s := by
  tb_start
  case hb => exact BindsTo.of_eq (binds := [("value", .none)]) rfl
  case hl => rfl
  intro L h₁ tk hL htk F C'
  have T := C.T
  have N : News s.heap L h₁ [] := News.nil
  k_steps
  exact Ret.intro rfl F.keep
set_option maxHeartbeats 4000000 in
theorem co_spec (C : Ctx w loose mg mb mean s.heap) (hd : A.depth < 459) (hh : A.handled = none) {x : Str} {tx' : Tok} {b : Bool} (hx : x.length ≤ 300) (hp : ∀ c ∈ tx x, isDig c = true) (hne : tx x ≠ []) :
    codeAny (model PR w) A (.call (.ref 300) ⟨[.ref 457, .str x tx', .bool b], []⟩) (Ret s fun v _ => ∃ t, v = .int (numL (tx x)) t) s := by
  tb_start
  case hb => exact kp_binds (K := KK w.params) (Ctx.K (by assumption)) (binds := [("cls", .ref 457), ("value", .str x tx'), ("allow_none", .bool b)]) (fun S => rfl)
  case hl => rfl
  intro L h₁ tk hL htk F C'
  have T := C.T
  have N : News s.heap L h₁ [] := News.nil
  k_steps
  refine call_int hp hne hx ?_
  k_steps
  exact Ret.intro ⟨_, rfl⟩ F.keep
set_option maxHeartbeats 4000000 in
theorem coN_spec (C : Ctx w loose mg mb mean s.heap) (hd : A.depth < 459) (hh : A.handled = none)  :
    codeAny (model PR w) A (.call (.ref 300) ⟨[.ref 457, .none, .bool true], []⟩) (Ret s fun v _ => v = .none) s := by
  tb_start
  case hb => exact kp_binds (K := KK w.params) (Ctx.K (by assumption)) (binds := [("cls", .ref 457), ("value", .none), ("allow_none", .bool true)]) (fun S => rfl)
  case hl => rfl
  intro L h₁ tk hL htk F C'
  have T := C.T
  have N : News s.heap L h₁ [] := News.nil
  k_steps
  exact Ret.intro rfl F.keep
end Mine
end
section
set_option maxRecDepth 100000
local macro_rules | `(tactic| k_steps) => `(tactic| ((try dsimp only); repeat' (first | ((fail_if_success (with_reducible show PySem.wpAny _ _ (PySem.pyIter (PySem.Value.ref _)) _ _ _)); (fail_if_success (with_reducible show PySem.wpAny _ _ (PySem.call (PySem.Value.type "int") [PySem.Value.str _ _] _) _ _ _)); (fail_if_success (with_reducible show PySem.wpAny _ _ (PySem.eval (PySem.Expr.ListComp _ _ _ _) _) _ _ _)); (fail_if_success (with_reducible show PySem.wpAny _ _ (PySem.exec (PySem.Stmt.While _ _ _ _) _) _ _ _)); first | (with_reducible refine PySem.wpAny_execs_cons ?_) | ((try dsimp only); walk1)) | fail "no step")))
local macro_rules | `(tactic| tb_rel) => `(tactic| ((try dsimp only); repeat' (first | ((fail_if_success (with_reducible show PySem.wpAny _ _ (PySem.exec (PySem.Stmt.If _ _ _ _) _) _ _ _)); (fail_if_success (with_reducible show PySem.wpAny _ _ (PySem.pyIter (PySem.Value.ref _)) _ _ _)); (fail_if_success (with_reducible show PySem.wpAny _ _ (PySem.call (PySem.Value.type "int") [PySem.Value.str _ _] _) _ _ _)); (fail_if_success (with_reducible show PySem.wpAny _ _ (PySem.eval (PySem.Expr.ListComp _ _ _ _) _) _ _ _)); (fail_if_success (with_reducible show PySem.wpAny _ _ (PySem.exec (PySem.Stmt.While _ _ _ _) _) _ _ _)); first | (with_reducible refine PySem.wpAny_execs_cons ?_) | ((try dsimp only); walk1)) | fail "no step")))
namespace Mine
open PySem PySem.W PyProof.Rows PySem.Calls
local macro_rules | `(tactic| tb_start) => `(tactic| (have X := Ctx.K (by assumption); revert X; delta PR; k_fill; intro X; refine' enter (by assumption) (by k_is) (by k_is) (Nat.lt_trans (by assumption) (by decide)) ?hb (locs ?hl) ?_ rfl rfl rfl (by decide)))
variable {w : World} {loose : List Str} {mg mb : Str → Option Value} {mean : ExcName → Option Value} {A : Around} {s : Shared} {E : Value → Shared → Prop}
set_option maxHeartbeats 4000000 in
theorem numId_spec (C : Ctx w loose mg mb mean s.heap) (hd : A.depth < 458) (hh : A.handled = none) {x : Str} {tx' : Tok} (hx : x.length ≤ 300) (hp : ∀ c ∈ tx x, isDig c = true) (hne : tx x ≠ []) :
    codeAny (model PR w) A (.call (.ref 236) ⟨[.str x tx'], []⟩) (Ret s fun v _ => ∃ a, v = .ref a) s := by
  refine makeC (fI := 219) C rfl rfl rfl ?_
  have C2 : Ctx w loose mg mb mean ((s.heap.push emptyDict).push (instObj 236 s.heap.objs.size)) := C.keeps fun b o e => Heap.get?_push_of_some _ (Heap.get?_push_of_some _ e)
  have hd2 : (A.under (.builtin "type.__call__" ⟨.ref 236 :: [.str x tx'], []⟩)).depth < 459 := by rw [depth_under_make]; exact Nat.succ_lt_succ hd
  have hh2 : (A.under (.builtin "type.__call__" ⟨.ref 236 :: [.str x tx'], []⟩)).handled = none := hh
  generalize A.under (.builtin "type.__call__" ⟨.ref 236 :: [.str x tx'], []⟩) = A2 at hd2 hh2
  (have X := C.K; revert X; delta PR; k_fill; intro X; refine' enter (s := { s with heap := (s.heap.push emptyDict).push (instObj 236 s.heap.objs.size) }) C2 (by k_is) (by k_is) (Nat.lt_trans hd2 (by decide)) ?hb (locs ?hl) ?_ rfl rfl rfl (by decide))
  case hb => exact BindsTo.of_eq (binds := [("self", .ref (s.heap.objs.size + 1)), ("value", .str x tx')]) rfl
  case hl => rfl
  intro L h₁ tk hL htk F C'
  obtain ⟨F1, N⟩ := made_ground (h := s.heap) F
  clear F C2 C'
  have T := C.T
  k_steps
  refine call_int hp hne hx ?_
  k_steps
  rename Fr _ _ _ _ => F'
  exact ⟨rfl, Ret.intro ⟨_, rfl⟩ F'.keep⟩
set_option maxHeartbeats 4000000 in
theorem alphaId_spec (C : Ctx w loose mg mb mean s.heap) (hd : A.depth < 458) (hh : A.handled = none) {x : Str} {tx' : Tok} (hx : x.length ≤ 300) (hp : ∀ c ∈ tx x, c < 128) :
    codeAny (model PR w) A (.call (.ref 272) ⟨[.str x tx'], []⟩) (Ret s fun v _ => ∃ a, v = .ref a) s := by
  refine makeC (fI := 255) C rfl rfl rfl ?_
  have C2 : Ctx w loose mg mb mean ((s.heap.push emptyDict).push (instObj 272 s.heap.objs.size)) := C.keeps fun b o e => Heap.get?_push_of_some _ (Heap.get?_push_of_some _ e)
  have hd2 : (A.under (.builtin "type.__call__" ⟨.ref 272 :: [.str x tx'], []⟩)).depth < 459 := by rw [depth_under_make]; exact Nat.succ_lt_succ hd
  have hh2 : (A.under (.builtin "type.__call__" ⟨.ref 272 :: [.str x tx'], []⟩)).handled = none := hh
  generalize A.under (.builtin "type.__call__" ⟨.ref 272 :: [.str x tx'], []⟩) = A2 at hd2 hh2
  (have X := C.K; revert X; delta PR; k_fill; intro X; refine' enter (s := { s with heap := (s.heap.push emptyDict).push (instObj 272 s.heap.objs.size) }) C2 (by k_is) (by k_is) (Nat.lt_trans hd2 (by decide)) ?hb (locs ?hl) ?_ rfl rfl rfl (by decide))
  case hb => exact BindsTo.of_eq (binds := [("self", .ref (s.heap.objs.size + 1)), ("value", .str x tx')]) rfl
  case hl => rfl
  intro L h₁ tk hL htk F C'
  obtain ⟨F1, N⟩ := made_ground (h := s.heap) F
  clear F C2 C'
  have T := C.T
  k_steps
  refine getMethod_builtin (typeIs_str _ _ _) F.plainAttrs_str F.slot_str_encode F.type_str_encode (fun a e => by cases e) ?_
  k_steps
  refine call_encode (Nat.le_trans hx (by decide)) hp fun v tk' => ?_
  k_steps
  rename Fr _ _ _ _ => F'
  exact ⟨rfl, Ret.intro ⟨_, rfl⟩ F'.keep⟩
end Mine
end
section
set_option maxRecDepth 100000
namespace Mine
open PySem PySem.W PyProof.Rows PySem.Calls
/-- a code object's table of inner codes, as far as it has grown -/
def Tab (h : Heap) (c P : Addr) : Prop := ∃ ps, h.IsCode c P ps ∧ h.TableAt c P ps
theorem Tab.keeps {h h' : Heap} {c P : Addr} (x : Tab h c P) (k : ∀ b o, h.get? b = some o → h'.get? b = some o) : Tab h' c P := by
  obtain ⟨ps, a, b⟩ := x
  exact ⟨ps, a.keeps k, b.keeps k⟩
/-- a generator that has not run: n values, each as told -/
def GenR (prog : Program) (w : World) (A : Around) (a : Addr) (base : Heap) (n : Nat) (F : Nat → Value → Prop) (s : Shared) : Prop :=
  ∃ fp wr g St, WalksS prog w A.in4 a fp wr (GenOnlyQ g) n F St ∧ St 0 s ∧ (∀ i s', St i s' → s'.TypeIs (.ref a) "generator") ∧ a ∈ fp ∧ (∀ b ∈ fp, b < s.heap.objs.size) ∧ ∀ b ∈ wr, base.get? b = none
section
variable {prog : Program} {w : World} {A : Around} {E : Value → Shared → Prop} {s : Shared} {c P : Addr} {p : Program} {loose : List Str} {mean : ExcName → Option Value} {mg mb : Str → Option Value} {g : Heap}
/-- kept shut till it is asked for -/
def Hold (q : Prop) : Prop := q
theorem passing_all (n : Nat) : passing (fun _ => true) n 0 = List.range n := by
  unfold passing
  rw [List.drop_zero, List.filter_eq_self.mpr (fun _ _ => rfl)]
theorem genexp_rule {env : Env} {elt iter : Expr} {x : Str} {px : Pos} {scope : Scope} {cl : List (Str × Addr)} {pos : Pos} {Q : Value → Shared → Prop}
    (T : Top p loose mean mg mb g) (hglob : env.globals = mainGlobals) (hcode : env.code = .ref c) (hgP : g.get? P = none)
    (hh : A.handled = none) (hco : scope.isCoroutine = false) (hclos : closureFor scope env = pure cl) (hcell : ∀ y ∈ scope.names, y.2 ≠ .cell) (h0 : scope.names.lookup (".0" : Str) = some NameKind.local)
    (hx : scope.names.lookup x = some .local) (hkind : scope.kind = .function) (hroom : A.depth < recursionLimit)
    (h : wpAny (model prog w) A (eval iter env) (fun xv s₁ => Hold (∃ l items F, xv = .ref l ∧ (s₁.heap.IsTuple l items ∨ s₁.heap.IsList l items) ∧ Tab s₁.heap c P ∧ AllBare s₁.gens ∧ (∀ b o, g.get? b = some o → s₁.heap.get? b = some o) ∧
      (∀ (code : Value) (C : Addr) (A' : Around) E' i v (s₂ : Shared) m₂, A'.handled = none → A'.depth ≤ A.depth + 1 → A'.units ≤ A.units + 8 → items[i]? = some v → s₂.heap.Ns (genEnv scope cl C code builtinsNs env).locals m₂ → m₂ x = some v → (∀ b o, g.get? b = some o → s₂.heap.get? b = some o) →
        wpAny (model prog w) A' (eval elt (genEnv scope cl C code builtinsNs env)) (fun y s₃ => F i y ∧ Keeps s₂ s₃) E' s₂) ∧
      (∀ a s₅, (∀ b o, b ≠ P → s₁.heap.get? b = some o → s₅.heap.get? b = some o) → Tab s₅.heap c P → AllBare s₅.gens → s₅.os = s₁.os → s₅.drawn = s₁.drawn → GenR prog w A a s₁.heap items.size F s₅ → Q (.ref a) s₅))) E s)
    (hs : ∀ x, genFold iter env x = pure x) :
    wpAny (model prog w) A (eval (.GeneratorExp elt [⟨.Name x px, iter, [], 0⟩] scope pos) env) Q E s := by
  refine wpAny_GeneratorExp_walksQD hh hco hclos hcell h0 hx hkind hroom (wpAny_mono h (fun xv s₁ h₁ => ?_) fun _ _ e => e) hs
  obtain ⟨l, items, F, rfl, hl, hTab, G, hg, helt, hQ⟩ := h₁
  have hlt : l < s₁.heap.objs.size := by
    rcases hl with ⟨_, e, _⟩ | ⟨_, e, _⟩ <;> exact Heap.lt_size e
  obtain ⟨ps, hc, ht⟩ := hTab
  have hPlt : P < s₁.heap.objs.size := Heap.lt_size ht.2
  have hlP : l ≠ P := fun e => by
    rcases hl with ⟨o, ho, hc', _⟩ | ⟨o, ho, hc', _⟩ <;>
    · rw [e, ht.2] at ho; cases ho; exact absurd hc' (by simp)
  have iter : ∀ ob : Obj, (∀ A' : Around, A'.handled = none → ∃ St₀, Walks prog w A' s₁.heap.objs.size [s₁.heap.objs.size, l] [s₁.heap.objs.size] items.size (fun i v => items[i]? = some v) St₀) → True := fun _ _ => trivial
  -- the rest, once the iterator stands
  have rest : ∀ (ob : Obj) (St₀ : Nat → Heap → Prop), (∀ A' : Around, A'.handled = none → Walks prog w A' s₁.heap.objs.size [s₁.heap.objs.size, l] [s₁.heap.objs.size] items.size (fun i v => items[i]? = some v) St₀) → St₀ 0 (s₁.heap.push ob) →
      ({ s₁ with heap := s₁.heap.push ob } : Shared).heap.NoLimit ∧ wpAny (model prog w) A (genexprCode env pos (env.qual ++ "<genexpr>") scope) (fun code s₃ => wpAny (model prog w) A (builtinsFor env.globals env.builtins) (fun bi s₄ =>
        ∃ I fp wr n₀ P St₀ pz F, Value.ref s₁.heap.objs.size = .ref I ∧ (∀ A' : Around, A'.handled = none → Walks prog w A' I fp wr n₀ P St₀) ∧ St₀ 0 s₄.heap ∧ (∀ b ∈ fp, b < s₄.heap.objs.size) ∧ s₄.heap.NoLimit ∧ cStatics ∉ wr ∧
          (∀ href : Heap, (∀ b o, s₄.heap.get? b = some o → href.get? b = some o) →
            QuietGenD prog w (genEnv scope cl s₄.heap.objs.size code bi env) x [] elt (List.range s₄.heap.objs.size) wr P pz F href (A.depth + 1) (A.units + 8)) ∧
          (∀ a h₅ tk gs, gs.bare = true → s₄.heap.objs.size < a → h₅.objs.size = a + 1 → (∀ b o, s₄.heap.get? b = some o → h₅.get? b = some o) →
            WalksS prog w A.in4 a (a :: s₄.heap.objs.size :: List.range s₄.heap.objs.size) (s₄.heap.objs.size :: wr) (GenOnlyQ s₄.gens.size) (passing pz n₀ 0).length
              (fun j y => ∃ i, (passing pz n₀ 0)[j]? = some i ∧ F i y) (GenAt prog w A.in4 a s₄.gens.size s₄.heap.objs.size (List.range s₄.heap.objs.size) wr pz n₀ F) →
            GenAt prog w A.in4 a s₄.gens.size s₄.heap.objs.size (List.range s₄.heap.objs.size) wr pz n₀ F 0 { s₄ with gens := s₄.gens.push gs, toks := tk, heap := h₅ } →
            Q (.ref a) { s₄ with gens := s₄.gens.push gs, toks := tk, heap := h₅ })) E s₃) E { s₁ with heap := s₁.heap.push ob } := by
    intro ob St₀ W hst
    have up : ∀ b o, s₁.heap.get? b = some o → (s₁.heap.push ob).get? b = some o := fun b o e => Heap.get?_push_of_some _ e
    have sz1 : (s₁.heap.push ob).objs.size = s₁.heap.objs.size + 1 := Heap.size_push ..
    have T₁ := T.keeps hg
    refine ⟨T₁.nolimit.keeps up, ?_⟩
    have go : ∀ (code : Value) (h₃ : Heap) (tk : Nat), Heap.ExtBut P (s₁.heap.push ob) h₃ → (s₁.heap.push ob).objs.size ≤ h₃.objs.size → Tab h₃ c P →
        wpAny (model prog w) A (builtinsFor env.globals env.builtins) (fun bi s₄ =>
        ∃ I fp wr n₀ P St₀ pz F, Value.ref s₁.heap.objs.size = .ref I ∧ (∀ A' : Around, A'.handled = none → Walks prog w A' I fp wr n₀ P St₀) ∧ St₀ 0 s₄.heap ∧ (∀ b ∈ fp, b < s₄.heap.objs.size) ∧ s₄.heap.NoLimit ∧ cStatics ∉ wr ∧
          (∀ href : Heap, (∀ b o, s₄.heap.get? b = some o → href.get? b = some o) →
            QuietGenD prog w (genEnv scope cl s₄.heap.objs.size code bi env) x [] elt (List.range s₄.heap.objs.size) wr P pz F href (A.depth + 1) (A.units + 8)) ∧
          (∀ a h₅ tk gs, gs.bare = true → s₄.heap.objs.size < a → h₅.objs.size = a + 1 → (∀ b o, s₄.heap.get? b = some o → h₅.get? b = some o) →
            WalksS prog w A.in4 a (a :: s₄.heap.objs.size :: List.range s₄.heap.objs.size) (s₄.heap.objs.size :: wr) (GenOnlyQ s₄.gens.size) (passing pz n₀ 0).length
              (fun j y => ∃ i, (passing pz n₀ 0)[j]? = some i ∧ F i y) (GenAt prog w A.in4 a s₄.gens.size s₄.heap.objs.size (List.range s₄.heap.objs.size) wr pz n₀ F) →
            GenAt prog w A.in4 a s₄.gens.size s₄.heap.objs.size (List.range s₄.heap.objs.size) wr pz n₀ F 0 { s₄ with gens := s₄.gens.push gs, toks := tk, heap := h₅ } →
            Q (.ref a) { s₄ with gens := s₄.gens.push gs, toks := tk, heap := h₅ })) E { s₁ with heap := h₃, toks := tk } := by
      intro code h₃ tk hx₃ hsz hT₃
      have keep3 : ∀ b o, b ≠ P → s₁.heap.get? b = some o → h₃.get? b = some o := fun b o hb e => hx₃ b o hb (up b o e)
      have keepg : ∀ b o, g.get? b = some o → h₃.get? b = some o := fun b o e => keep3 b o (fun q => by rw [q, hgP] at e; cases e) (hg b o e)
      have T₃ := T.keeps keepg
      obtain ⟨bm, obm, M⟩ := bmod_of_top T₃
      have hnsm : h₃.Ns env.globals mg := by rw [hglob]; exact M.ns
      refine wpAny_builtinsFor (s := { s₁ with heap := h₃, toks := tk }) hnsm M.name M.ne M.obj M.cls M.dict M.data ?_
      have hcs : cStatics < s₁.heap.objs.size := by obtain ⟨_, hn, _⟩ := T₁.nolimit; exact hn.lt
      refine ⟨s₁.heap.objs.size, _, _, _, _, St₀, fun _ => true, F, rfl, W, ?_, ?_, T₃.nolimit, ?_, ?_, ?_⟩
      · refine (W A hh).frame _ _ _ hst (fun b hb o e => hx₃ b o ?_ e)
        rcases List.mem_cons.mp hb with rfl | hb
        · exact Nat.ne_of_gt hPlt
        · rw [List.mem_singleton.mp hb]; exact hlP
      · intro b hb
        show b < h₃.objs.size
        rw [sz1] at hsz
        rcases List.mem_cons.mp hb with rfl | hb
        · exact hsz
        · rw [List.mem_singleton.mp hb]; exact Nat.lt_of_lt_of_le (Nat.lt_succ_of_lt hlt) hsz
      · intro hm
        rw [List.mem_singleton.mp hm] at hcs
        exact Nat.lt_irrefl _ hcs
      · intro href hhref
        have gk : ∀ s₂ : Shared, (∀ b ∈ List.range h₃.objs.size, b ∉ [s₁.heap.objs.size] → ∀ o, href.get? b = some o → s₂.heap.get? b = some o) → ∀ b o, g.get? b = some o → s₂.heap.get? b = some o := fun s₂ hk b o e => by
          have h1 := hg b o e
          refine hk b (List.mem_range.mpr (Heap.lt_size (keepg b o e))) (fun hm => ?_) o (hhref b o (keepg b o e))
          have := Heap.lt_size h1
          rw [List.mem_singleton.mp hm] at this
          exact Nat.lt_irrefl _ this
        refine ⟨?_, ?_⟩
        · intro A' E' i v s₂ m₂ _ _ _ _ _ _ _
          rw [List.forIn_nil]
          exact wpAny_pure ⟨rfl, ⟨_, _, rfl, fun _ _ e => e⟩⟩
        · intro A' E' i v s₂ m₂ q1 q2 q3 hP _ hns hm hk
          exact helt code _ A' E' i v s₂ m₂ q1 q2 q3 hP hns hm (gk s₂ hk)
      · intro a h₅ tk₅ gs hgb hag hsz₅ hk₅ W₅ hat
        rw [passing_all] at W₅
        have W₆ : WalksS prog w A.in4 a (a :: h₃.objs.size :: List.range h₃.objs.size) (h₃.objs.size :: [s₁.heap.objs.size]) (GenOnlyQ s₁.gens.size) items.size F (GenAt prog w A.in4 a s₁.gens.size h₃.objs.size (List.range h₃.objs.size) [s₁.heap.objs.size] (fun _ => true) items.size F) := by
          rw [List.length_range] at W₅
          refine ⟨W₅.sub, W₅.grefl, W₅.gtrans, W₅.frame, ?_, W₅.done, W₅.self⟩
          intro i s' Q' E' hi hst' hq'
          refine W₅.item i s' Q' E' hi hst' fun v s'' hv => hq' v s'' ?_
          obtain ⟨j, hj, hF⟩ := hv
          have : j = i := by
            rw [List.getElem?_range hi] at hj
            exact (Option.some.inj hj).symm
          exact this ▸ hF
        refine hQ a _ (fun b o hb e => hk₅ b o (keep3 b o hb e)) (hT₃.keeps hk₅) (G.push hgb) rfl rfl ⟨_, _, _, _, W₆, hat, (fun i s' st => st.1.typeIs), List.mem_cons_self, ?_, ?_⟩
        · intro b hb
          show b < h₅.objs.size
          rw [hsz₅]
          rcases List.mem_cons.mp hb with rfl | hb
          · exact Nat.lt_succ_self _
          · rcases List.mem_cons.mp hb with rfl | hb
            · exact Nat.lt_succ_of_lt hag
            · exact Nat.lt_succ_of_lt (Nat.lt_trans (List.mem_range.mp hb) hag)
        · intro b hb
          rcases List.mem_cons.mp hb with rfl | hb
          · exact Heap.get?_none_of_le (by rw [sz1] at hsz; exact Nat.le_of_succ_le hsz)
          · rw [List.mem_singleton.mp hb]; exact Heap.get?_none_of_le (Nat.le_refl _)
    cases hf : codeAmong pos ps.toList with
    | none =>
      refine wpAny_genexprCodeX (s := { s₁ with heap := s₁.heap.push ob }) hcode (hc.push _) (ht.push _) hf fun c' h₃ tk₃ hx₃ hge hlt' hcode₃ _ htab₃ _ => ?_
      exact go _ h₃ tk₃ hx₃ (Nat.le_trans hge (Nat.le_of_lt hlt')) ⟨_, hcode₃, htab₃⟩
    | some c' =>
      refine wpAny_genexprCode_hit (s := { s₁ with heap := s₁.heap.push ob }) hcode (hc.push _) hf ?_
      exact go c' _ s₁.toks (fun b o _ e => e) (Nat.le_refl _) ⟨ps, hc.push _, ht.push _⟩
  rcases hl with hl | hl
  · exact wpAny_pyIter_tuple hl (rest _ _ (fun A' hA => Walks.tuple hA _ _ (Nat.ne_of_lt hlt) items) ⟨⟨_, Heap.get?_push_size _ rfl, rfl, rfl⟩, Heap.IsTuple.push hl _⟩)
  · exact wpAny_pyIter_list hl (rest _ _ (fun A' hA => Walks.list hA _ _ (Nat.ne_of_lt hlt) items) ⟨⟨_, Heap.get?_push_size _ rfl, rfl, rfl⟩, hl.push _⟩)
end
end Mine
end
section
set_option maxRecDepth 100000
namespace Mine
open PySem PySem.W PyProof.Rows PySem.Calls
section
variable {prog : Program} {w : World} {A : Around} {E : Value → Shared → Prop} {s : Shared} {base : Heap} {a : Addr} {n : Nat} {F : Nat → Value → Prop} {Q : Value → Shared → Prop}
theorem tuple_genR (X : GenR prog w A a base n F s) (hn : n ≤ 400) (G : AllBare s.gens)
    (hQ : ∀ (s' : Shared) (acc : Array Value), (∀ b o, (base.get? b).isSome = true → s.heap.get? b = some o → s'.heap.get? b = some o) → AllBare s'.gens → s'.os = s.os → s'.drawn = s.drawn → ItemsOf F acc n →
      Q (.ref s'.heap.objs.size) { s' with heap := s'.heap.push { cls := .type "tuple", data := .seq acc } }) :
    wpAny (model prog w) A (call (.type "tuple") [.ref a]) Q E s := by
  obtain ⟨fp, wr, g, St, W, hst, hT, ha, hfp, hwr⟩ := X
  have W := W.in4_3
  refine call_tuple_gen W hT hst hfp ha (fun s' acc hm hacc => ?_) (Nat.le_trans hn (by decide))
  refine hQ s' acc (fun b o hb e => hm.heap b o (fun q => ?_) e) (G.movedS hm) hm.os hm.drawn hacc
  rw [hwr b q] at hb; cases hb
theorem join_genR {sep : Str} {t : Tok} (X : GenR prog w A a base n F s) (hn : n ≤ 400) (G : AllBare s.gens) (f : Nat → Str) (htx : ∀ j v, F j v → ∃ u, v = .str (f j) u)
    (hok : JoinOk sep ((List.range n).map f) = true)
    (hQ : ∀ (s' : Shared) t', (∀ b o, (base.get? b).isSome = true → s.heap.get? b = some o → s'.heap.get? b = some o) → AllBare s'.gens → s'.os = s.os → s'.drawn = s.drawn → Q (.str (Txt.join sep ((List.range n).map f)) t') s') :
    wpAny (model prog w) A (call (.builtin "str.join") [.str sep t, .ref a]) Q E s := by
  obtain ⟨fp, wr, g, St, W, hst, hT, ha, hfp, hwr⟩ := X
  have W := W.in4_2
  refine SC.joinGen W hT hst hfp ha (fun j v hv => let ⟨u, e⟩ := htx j v hv; ⟨_, u, e⟩) (fun s' l hm hacc => ?_) (Nat.le_trans hn (by decide))
  have hlen : l.length = n := by simpa [strValues] using hacc.1
  have hl : l.map (·.1) = (List.range n).map f := by
    apply List.ext_getElem
    · rw [List.length_map, List.length_map, List.length_range, hlen]
    · intro j h1 h2
      rw [List.length_map] at h1
      obtain ⟨u, hv⟩ := htx j _ (hacc.2 j (.str l[j].1 l[j].2) (by simp [strValues, List.getElem?_eq_getElem h1]))
      injection hv with h3 _
      simpa using h3
  rw [hl]
  have G' := G.movedS hm
  exact ⟨hok, fun t' k => hQ { s' with toks := k } t' (fun b o hb e => hm.heap b o (fun q => by rw [hwr b q] at hb; cases hb) e) G' hm.os hm.drawn⟩
end
end Mine
end
section
set_option maxRecDepth 100000
namespace Mine
open PySem PySem.W PyProof.Rows PySem.Calls
/-- what a call is told of the heap beside its ground -/
def Known (B h : Heap) (news : List (Addr × Obj)) : Prop := ∀ p ∈ news, h.get? p.1 = some p.2 ∧ B.get? p.1 = none
theorem ground_of {B h h₁ : Heap} {L : Addr} {m : Str → Option Value} {news : List (Addr × Obj)} (F : Fr h L h₁ m) (hb : ∀ b o, B.get? b = some o → h.get? b = some o) (K : Known B h news) :
    Fr (hideAll h (news.map (·.1))) L h₁ m ∧ News (hideAll h (news.map (·.1))) L h₁ news ∧ (∀ b o, B.get? b = some o → (hideAll h (news.map (·.1))).get? b = some o) ∧ ∀ p ∈ news, (hideAll h (news.map (·.1))).get? p.1 = none := by
  have hn : ∀ p ∈ news, (hideAll h (news.map (·.1))).get? p.1 = none := fun p hp => hideAll_none _ (List.mem_map_of_mem hp)
  refine ⟨⟨F.ns, fun b o e => F.keep b o (of_hideAll _ e), by rw [hideAll_size]; exact F.above⟩, fun p hp => ⟨F.keep _ _ (K p hp).1, ?_, hn p hp⟩, fun b o e => hideAll_get _ (hb b o e) (fun hm => ?_), hn⟩
  · exact Nat.ne_of_lt (Nat.lt_of_lt_of_le (Heap.lt_size (K p hp).1) F.above)
  · obtain ⟨p, hp, rfl⟩ := List.mem_map.mp hm
    rw [(K p hp).2] at e; cases e
/-- tables of inner codes at their places -/
def TabP (h : Heap) (P : Addr) : Prop := ∃ q, h.get? P = some (tabObj q) ∧ TriplesOk q.toList
theorem Tab.toP {h : Heap} {c P : Addr} (x : Tab h c P) : TabP h P := by
  obtain ⟨ps, a, b⟩ := x
  obtain ⟨_, _, _, _, _, _, _, _, _, op, _, _, _, _, _, _, _, h1, h2, h3, _⟩ := a
  rw [b.2] at h1
  cases h1
  cases h2
  exact ⟨ps, b.2, h3⟩
theorem TabP.toTab {h : Heap} {c P : Addr} {q : Array Value} (C : CodeHd h c P) (e : h.get? P = some (tabObj q)) (t : TriplesOk q.toList) : Tab h c P := ⟨q, C.code e t, C.tab e⟩
/-- a call that gives back a value, grows tables, keeps the rest -/
def RetT (ps : List Addr) (s : Shared) (P : Value → Heap → Prop) (r : Result) (s' : Shared) : Prop :=
  ∃ v h' tk gs, r = .ok (.ret v) ∧ s' = { s with heap := h', toks := tk, gens := gs } ∧ AllBare gs ∧ P v h' ∧ (∀ b o, b ∉ ps → s.heap.get? b = some o → h'.get? b = some o) ∧ ∀ b ∈ ps, TabP h' b
/-- all but one place kept -/
theorem Fr.but {h₀ h h' : Heap} {L P : Addr} {m : Str → Option Value} (F : Fr h₀ L h m) (hP : h₀.get? P = none) (hL : P ≠ L) (k : ∀ b o, b ≠ P → h.get? b = some o → h'.get? b = some o) : Fr h₀ L h' m :=
  ⟨F.ns.at' fun o e => k L o (Ne.symm hL) e, fun b o e => k b o (fun q => by rw [q, hP] at e; cases e) (F.keep b o e), F.above⟩
theorem News.but {h₀ h h' : Heap} {L P : Addr} {q q' : Array Value} {rest : List (Addr × Obj)} (N : News h₀ L h ((P, tabObj q) :: rest)) (hr : (rest.all fun p => decide (p.2.cls ≠ .none)) = true) (k : ∀ b o, b ≠ P → h.get? b = some o → h'.get? b = some o) (e : h'.get? P = some (tabObj q')) : News h₀ L h' ((P, tabObj q') :: rest) := fun p hp => by
  rcases List.mem_cons.mp hp with rfl | hp
  · exact ⟨e, (N _ (.head _)).2⟩
  · have hc := of_decide_eq_true (List.all_eq_true.mp hr p hp)
    refine ⟨k _ _ (fun z => ?_) (N p (.tail _ hp)).1, (N p (.tail _ hp)).2⟩
    have h1 := (N p (.tail _ hp)).1
    rw [z, (N _ (.head _)).1] at h1
    injection h1 with h1
    exact hc (by rw [← h1])
/-- the end of a function that grew tables -/
theorem keeps_all {h h' : Heap} {L : Addr} {m : Str → Option Value} {news : List (Addr × Obj)} {ps : List Addr} (F : Fr (hideAll h (news.map (·.1))) L h' m) (k : ∀ p ∈ news, p.1 ∉ ps → ∀ o, h.get? p.1 = some o → h'.get? p.1 = some o) : ∀ b o, b ∉ ps → h.get? b = some o → h'.get? b = some o := fun b o hb e => by
  by_cases hm : b ∈ news.map (·.1)
  · obtain ⟨p, hp, rfl⟩ := List.mem_map.mp hm
    exact k p hp hb o e
  · exact F.keep b o (hideAll_get _ e hm)
end Mine
end
section
set_option maxRecDepth 100000
local macro_rules | `(tactic| k_steps) => `(tactic| ((try dsimp only); repeat' (first | ((fail_if_success (with_reducible show PySem.wpAny _ _ (PySem.pyIter (PySem.Value.ref _)) _ _ _)); (fail_if_success (with_reducible show PySem.wpAny _ _ (PySem.call (PySem.Value.ref 236) _ _) _ _ _)); (fail_if_success (with_reducible show PySem.wpAny _ _ (PySem.call (PySem.Value.ref 272) _ _) _ _ _)); (fail_if_success (with_reducible show PySem.wpAny _ _ (PySem.eval (PySem.Expr.GeneratorExp _ _ _ _) _) _ _ _)); (fail_if_success (with_reducible show PySem.wpAny _ _ (PySem.exec (PySem.Stmt.While _ _ _ _) _) _ _ _)); first | (with_reducible refine PySem.wpAny_execs_cons ?_) | ((try dsimp only); walk1)) | fail "no step")))
local macro_rules | `(tactic| tb_rel) => `(tactic| ((try dsimp only); repeat' (first | ((fail_if_success (with_reducible show PySem.wpAny _ _ (PySem.exec (PySem.Stmt.If _ _ _ _) _) _ _ _)); (fail_if_success (with_reducible show PySem.wpAny _ _ (PySem.pyIter (PySem.Value.ref _)) _ _ _)); (fail_if_success (with_reducible show PySem.wpAny _ _ (PySem.call (PySem.Value.ref 236) _ _) _ _ _)); (fail_if_success (with_reducible show PySem.wpAny _ _ (PySem.call (PySem.Value.ref 272) _ _) _ _ _)); (fail_if_success (with_reducible show PySem.wpAny _ _ (PySem.eval (PySem.Expr.GeneratorExp _ _ _ _) _) _ _ _)); (fail_if_success (with_reducible show PySem.wpAny _ _ (PySem.exec (PySem.Stmt.While _ _ _ _) _) _ _ _)); first | (with_reducible refine PySem.wpAny_execs_cons ?_) | ((try dsimp only); walk1)) | fail "no step")))
local macro_rules | `(tactic| tb_rel) => `(tactic| ((try dsimp only); repeat' (first | ((fail_if_success (with_reducible show PySem.wpAny _ _ (PySem.eval (PySem.Expr.Name _ _) _) _ _ _)); (fail_if_success (with_reducible show PySem.wpAny _ _ (PySem.call _ _ _) _ _ _)); ((try dsimp only); walk1)) | fail "no step")))
local macro_rules | `(tactic| k_handed) => `(tactic| assumption)
namespace Mine
open PySem PySem.W PyProof.Rows PySem.Calls
local macro_rules | `(tactic| tb_start) => `(tactic| (have X := Ctx.K (by assumption); revert X; delta PR; k_fill; intro X; refine' enter (by assumption) (by k_is) (by k_is) (Nat.lt_trans (by assumption) (by decide)) ?hb (locs ?hl) ?_ rfl rfl rfl (by decide)))
variable {w : World} {loose : List Str} {mg mb : Str → Option Value} {mean : ExcName → Option Value} {A : Around} {s : Shared} {E : Value → Shared → Prop}

/-- one entry of the dict of an object -/
abbrev en (w : World) (k : String) (t : Tok) (v : Value) : DictEntry := { hash := PyData.keyHash w.params (Str.ofString k), key := .str (Str.ofString k) t, val := v }
/-- a tail's value: None, or a tuple of texts -/
def TailV (h : Heap) (v : Value) (o : Option (List (Str × Tok))) : Prop := match o with
  | none => v = .none
  | some l => ∃ a, v = .ref a ∧ IsTup h a (strValues l).toArray
theorem TailV.keeps {h h' : Heap} {v : Value} {o : Option (List (Str × Tok))} (x : TailV h v o) (k : ∀ b ob, h.get? b = some ob → h'.get? b = some ob) : TailV h' v o := by
  cases o with
  | none => exact x
  | some l => obtain ⟨a, e, t⟩ := x; exact ⟨a, e, t.keeps k⟩
theorem TailV.hide {h : Heap} {v : Value} {o : Option (List (Str × Tok))} {news : List (Addr × Obj)} (x : TailV h v o) (hn : ∀ p ∈ news, h.get? p.1 = some p.2) (hc : (news.all fun p => decide (p.2.cls ≠ .type "tuple")) = true) : TailV (hideAll h (news.map (·.1))) v o := by
  cases o with
  | none => exact x
  | some l =>
    obtain ⟨a, e, ob, h1, h2, h3⟩ := x
    refine ⟨a, e, ob, hideAll_get _ h1 (fun hm => ?_), h2, h3⟩
    obtain ⟨p, hp, rfl⟩ := List.mem_map.mp hm
    rw [hn p hp] at h1
    injection h1 with h1
    exact of_decide_eq_true (List.all_eq_true.mp hc p hp) (by rw [h1]; exact h2)
def someL (o : Option (List (Str × Tok))) : Bool := match o with | some (_ :: _) => true | _ => false
theorem truthy_tail {prog : Program} {A : Around} {v : Value} {o : Option (List (Str × Tok))} {Q : Bool → Shared → Prop} (x : TailV s.heap v o) (hl : ∀ l, o = some l → l.length ≤ 400) (h : ∀ tk, Q (someL o) { s with toks := tk }) : wpAny (model prog w) A (truthy v) Q E s := by
  cases o with
  | none => obtain rfl := x; exact fun _ _ _ => h s.toks
  | some l =>
    obtain ⟨a, rfl, t⟩ := x
    refine PyProof.Rows.truthy_tuple t ?_ ?_
    · rw [List.size_toArray]; show ((l.map _).length : Int) < _
      rw [List.length_map]; have := hl l rfl; omega
    · have := h (s.toks + 1 + 1)
      cases l <;> exact this
theorem callK {prog : Program} {A : Around} {f : Value} {pos : List Value} {kw : List (Str × Value)} {P : Value → Heap → Prop} {Q : Value → Shared → Prop}
    (h : codeAny (model prog w) A (.call f ⟨pos, kw⟩) (Ret s P) s)
    (k : ∀ v h' tk, P v h' → (∀ b o, s.heap.get? b = some o → h'.get? b = some o) → Q v { s with heap := h', toks := tk }) : wpAny (model prog w) A (call f pos kw) Q E s := by
  refine wpAny_call (codeAny_mono h fun r s' hr => ?_)
  obtain ⟨v, h', tk, rfl, rfl, p, kk⟩ := hr
  exact k v h' tk p kk
theorem gname {A : Around} {env : Env} {x : Str} {pos : Pos} {v : Value} {Q : Value → Shared → Prop} (C : Ctx w loose mg mb mean s.heap) (h : Q v s) (hv : nsIn (KK w.params) mainGlobals x = some (some v) := by rfl)
    (hk : env.scope.kind = .function := by rfl) (hx : env.kindOf x = some .globalImplicit := by rfl) (hg : env.globals = mainGlobals := by rfl) (hd : (x == ("__debug__" : Str)) = false := by decide) :
    wpAny (model PR w) A (eval (.Name x pos) env) Q E s :=
  Calls.Name_function_global hk hx (Calls.loadGlobal_global (mg := mg) (by rw [hg]; exact C.T.g) (mg_of C.K C.T.g hv) h) hd
/-- an identifier's text -/
def IdS (y : Str) : Prop := y.length ≤ 300 ∧ tx y ≠ [] ∧ ∀ c ∈ tx y, c < 128
/-- where ways meet: the next statement, something known of the heap, generators bare -/
def JnG (s₀ : Shared) (P : Heap → Prop) (f : Flow) (s₂ : Shared) : Prop := f = .next ∧ ∃ h' tk' gs', s₂ = { s₀ with heap := h', toks := tk', gens := gs' } ∧ AllBare gs' ∧ P h'
theorem JnG.intro {s₀ : Shared} {P : Heap → Prop} {h' : Heap} {tk' : Nat} {gs' : Array GenState} (G : AllBare gs') (p : P h') : JnG s₀ P .next { s₀ with heap := h', toks := tk', gens := gs' } := ⟨rfl, h', tk', gs', rfl, G, p⟩
theorem wpAny_joinG {M : Model} {A : Around} {E : Value → Shared → Prop} {Q : Flow → Shared → Prop} {t : Sem Flow} {s : Shared} (P : Heap → Prop) (h : wpAny M A t (JnG s P) E s) (k : ∀ h' tk' gs', AllBare gs' → P h' → Q .next { s with heap := h', toks := tk', gens := gs' }) : wpAny M A t Q E s :=
  wpAny_mono h (fun _ _ ⟨e, h', tk', gs', e2, G, p⟩ => by subst e e2; exact k h' tk' gs' G p) fun _ _ e => e
theorem keepsT {B g h h' : Heap} {L P : Addr} {m : Str → Option Value} {q : Array Value} {rest : List (Addr × Obj)} (hg : hideAll h (((P, tabObj q) :: rest).map (·.1)) = g) (F : Fr g L h' m) (K : Known B h ((P, tabObj q) :: rest)) (N : ∀ p ∈ rest, h'.get? p.1 = some p.2) :
    ∀ b o, b ∉ [P] → h.get? b = some o → h'.get? b = some o := by
  subst hg
  refine keeps_all F fun p hp hb o e => ?_
  rcases List.mem_cons.mp hp with rfl | hp
  · exact absurd (List.Mem.head _) hb
  · rw [(K p (.tail _ hp)).1] at e; cases e; exact N p hp
theorem RetT.one {P : Addr} {s : Shared} {Q : Value → Heap → Prop} {v : Value} {h' : Heap} {tk : Nat} {gs : Array GenState} {q : Array Value} (G : AllBare gs) (p : Q v h') (k : ∀ b o, b ∉ [P] → s.heap.get? b = some o → h'.get? b = some o) (e : h'.get? P = some (tabObj q)) (hq : TriplesOk q.toList) :
    RetT [P] s Q (.ok (.ret v)) { s with heap := h', toks := tk, gens := gs } :=
  ⟨v, h', tk, gs, rfl, rfl, G, p, k, fun b hb => by rw [List.mem_singleton.mp hb]; exact ⟨q, e, hq⟩⟩
set_option maxHeartbeats 4000000 in
theorem key_spec {B : Heap} (C : Ctx w loose mg mb mean B) (hB : ∀ b o, B.get? b = some o → s.heap.get? b = some o) (hd : A.depth < 450) (hh : A.handled = none) (G : AllBare s.gens)
    {x dx : Addr} {q : Array Value} {k : Nat} {t1 t2 t3 t4 t5 t6 : Tok} {v1 v2 v3 vp vb vr : Value} {pre bld : Option (List (Str × Tok))} {wb : Bool}
    (K : Known B s.heap [(392, tabObj q), (x, instObj 457 dx), (dx, dictOf [en w "major" t1 v1, en w "minor" t2 v2, en w "patch" t3 v3, en w "prerelease" t4 vp, en w "build" t5 vb, en w "partial" t6 vr] k)])
    (hq : TriplesOk q.toList) (w1 : handedIn v1 = true) (w2 : handedIn v2 = true) (w3 : handedIn v3 = true) (hlp : ∀ l, pre = some l → l.length ≤ 400) (hls : ∀ l, pre = some l → ∀ p ∈ l, IdS p.1) (hbs : ∀ l, bld = some l → ∀ p ∈ l, IdS p.1) (hlb : ∀ l, bld = some l → l.length ≤ 400) (wp : handedIn vp = true) (wb' : handedIn vb = true) (hpre : TailV s.heap vp pre) (hbld : TailV s.heap vb bld) :
    codeAny (model PR w) A (.call (.ref 397) ⟨[.ref x], [(Str.ofString "with_build", .bool wb)]⟩) (RetT [392] s fun v _ => ∃ a, v = .ref a) s := by
  have CB := C.keeps hB
  (have X := CB.K; revert X; delta PR; k_fill; intro X; refine' enter CB (by k_is) (by k_is) (Nat.lt_trans hd (by decide)) ?hb (locs ?hl) ?_ rfl rfl rfl (by decide))
  case hb => exact kp_binds (K := KK w.params) CB.K (binds := [("self", .ref x), ("with_build", .bool wb)]) (fun S => rfl)
  case hl => rfl
  intro L h₁ tk hL htk F0 C'
  obtain ⟨F, N, hBg, hgn⟩ := ground_of F0 hB K
  have C := C.keeps hBg
  clear C' CB X
  generalize hg : hideAll s.heap _ = g at F N hBg hgn C
  have X := C.K
  revert X; delta PR; k_fill; intro X
  have T := C.T
  clear F0
  have hpre := hg ▸ hpre.hide (fun p hp => (K p hp).1) rfl
  have hbld := hg ▸ hbld.hide (fun p hp => (K p hp).1) rfl
  refine PySem.wpAny_execs_cons ?_
  refine wpAny_joinG (fun h' => ∃ q' ap m', Fr g L h' m' ∧ m' "self" = some (.ref x) ∧ m' "with_build" = some (.bool wb) ∧ m' "prerelease_key" = some (.ref ap) ∧ TriplesOk q'.toList ∧
    News g L h' [(392, tabObj q'), (x, instObj 457 dx), (dx, dictOf [en w "major" t1 v1, en w "minor" t2 v2, en w "patch" t3 v3, en w "prerelease" t4 vp, en w "build" t5 vb, en w "partial" t6 vr] k)]) ?_ ?_
  · k_steps
    refine truthy_tail (hpre.keeps F.keep) hlp fun tk' => ?_
    cases hb : someL pre
    · k_steps
      rename Fr _ _ _ _ => F'
      rename News _ _ _ _ => N'
      refine JnG.intro G ⟨q, _, _, F', rfl, rfl, rfl, hq, fun p hp => N' p ?_⟩
      simp only [List.mem_cons, List.not_mem_nil, or_false] at hp ⊢
      exact .inr (.inr (.inr hp))
    · obtain ⟨lp, ep, ap, rfl, tp⟩ : ∃ lp, pre = some lp ∧ ∃ ap, vp = .ref ap ∧ IsTup g ap (strValues lp).toArray := by
        cases pre with
        | none => cases hb
        | some lp => obtain ⟨ap, e1, e2⟩ := hpre; exact ⟨lp, rfl, ap, e1, e2⟩
      k_steps
      have tab := TabP.toTab (c := 396) (codeB_at (C.keeps F.keep).K) (N _ (.head _)).1 hq
      refine genexp_rule (c := 396) (P := 392) (cl := []) T ?a1 ?a2 (hgn _ (.head _)) hh ?a3 ?a4 ?a5 ?a6 ?a7 ?a8 ?a9 ?_ ?a10
      case a1 => with_unfolding_all rfl
      case a2 => with_unfolding_all rfl
      case a3 => with_unfolding_all rfl
      case a4 => with_unfolding_all rfl
      case a5 => decide
      case a6 => with_unfolding_all rfl
      case a7 => with_unfolding_all rfl
      case a8 => with_unfolding_all rfl
      case a9 => rw [depth_deeper]; exact Nat.lt_trans (Nat.succ_lt_succ hd) (by decide)
      case a10 => intro _; with_unfolding_all rfl
      k_steps
      refine (show Hold _ from ⟨_, _, fun _ y => ∃ a, y = .ref a, rfl, .inl (tp.keeps F.keep), tab, G, F.keep, ?_, ?_⟩)
      · intro code C2 A' E' i v s₂ m₂ a1 a2 a3 hv hns hm hk
        obtain ⟨y, ty, rfl, hy⟩ : ∃ y ty, v = .str y ty ∧ IdS y := by
          simp only [strValues, List.getElem?_toArray, List.getElem?_map, Option.map_eq_some_iff] at hv
          obtain ⟨p, hp, rfl⟩ := hv
          exact ⟨_, _, rfl, hls _ ep p (List.mem_of_getElem? hp)⟩
        have C3 := C.keeps hk
        have T := C3.T
        have X := C3.K
        have hdA : A'.depth < 458 := Nat.lt_of_le_of_lt a2 (by rw [depth_deeper]; omega)
        revert X; k_fill; intro X
        refine wpAny_IfExp ?_
        walk1
        walk1
        refine wpAny_Name (wpAny_loadName_local rfl rfl hns hm ?_)
        (try dsimp only)
        walk1
        (try dsimp only)
        walk1
        (try dsimp only)
        walk1
        (try dsimp only)
        walk1
        (try dsimp only)
        walk1
        (try dsimp only)
        walk1
        · refine gname C3 ?_
          tb_rel
          refine wpAny_Name (wpAny_loadName_local rfl rfl hns hm ?_)
          tb_rel
          refine callK (numId_spec C3 hdA a1 hy.1 (fun c hc => ?_) hy.2.1) fun v h' tk' P hk' => ⟨P, _, _, rfl, hk'⟩
          have := ‹Txt.isdigit y = true›
          rw [isdigit_tx hy.2.2, Bool.and_eq_true] at this
          exact List.all_eq_true.mp this.2 c hc
        · tb_rel
          refine gname C3 ?_
          tb_rel
          refine wpAny_Name (wpAny_loadName_local rfl rfl hns hm ?_)
          tb_rel
          exact callK (alphaId_spec C3 hdA a1 hy.1 hy.2.2) fun v h' tk' P hk' => ⟨P, _, _, rfl, hk'⟩
      · intro a s₅ k5 tab5 G5 o5 d5 X5
        tb_rel
        refine tuple_genR X5 (by simpa [strValues] using hlp _ ep) G5 fun s' acc k6 G6 o6 d6 hacc => ?_
        obtain ⟨h6, g6, dr6, t6, os6⟩ := s'
        obtain ⟨h5, g5, dr5, t5, os5⟩ := s₅
        dsimp only at k5 tab5 G5 o5 d5 k6 G6 o6 d6 ⊢
        subst o6 d6
        subst o5 d5
        have k56 : ∀ b o, b ≠ 392 → _ = some o → h6.get? b = some o := fun b o hb e => k6 b o (by rw [e]; rfl) (k5 b o hb e)
        obtain ⟨q5, e5, tr5⟩ := tab5.toP
        have e6 := k6 392 _ (by rw [(N _ (.head _)).1]; rfl) e5
        have F6 := (Fr.but F (hgn _ (.head _)) (N _ (.head _)).2.1 k56).push { cls := .type "tuple", data := .seq acc }
        have N6 := News.keeps (News.but N (by rfl) k56 e6) (fun b o e => Heap.get?_push_of_some { cls := .type "tuple", data := .seq acc } e)
        k_steps
        rename Fr _ _ _ _ => F'
        rename News _ _ _ _ => N'
        exact JnG.intro G6 ⟨q5, _, _, F', rfl, rfl, rfl, tr5, fun p hp => N' p hp⟩
  · rintro h2 tk2 gs2 G ⟨q, ap, m', F2, e1, e2, e3, hq, N⟩
    have F := explL F2 [(_, _), (_, _), (_, _)] (by simp only [List.forall_mem_cons]; exact ⟨e1, e2, e3, List.forall_mem_nil _⟩)
    clear F2
    cases wb
    · k_steps
      rename Fr _ _ _ _ => F'
      rename News _ _ _ _ => N'
      exact RetT.one G ⟨_, rfl⟩ (keepsT hg F' K fun p hp => (N' p (.tail _ (.tail _ hp))).1) (N' _ (.tail _ (.head _))).1 hq
    · k_steps
      have tab := TabP.toTab (c := 396) (codeB_at (C.keeps F.keep).K) (N _ (.head _)).1 hq
      refine genexp_rule (c := 396) (P := 392) (cl := []) T ?a1 ?a2 (hgn _ (.head _)) hh ?a3 ?a4 ?a5 ?a6 ?a7 ?a8 ?a9 ?_ ?a10
      case a1 => with_unfolding_all rfl
      case a2 => with_unfolding_all rfl
      case a3 => with_unfolding_all rfl
      case a4 => with_unfolding_all rfl
      case a5 => decide
      case a6 => with_unfolding_all rfl
      case a7 => with_unfolding_all rfl
      case a8 => with_unfolding_all rfl
      case a9 => rw [depth_deeper]; exact Nat.lt_trans (Nat.succ_lt_succ hd) (by decide)
      case a10 => intro _; with_unfolding_all rfl
      refine wpAny_mono (Q := fun xv s₁ => Hold (∃ a l h', xv = .ref a ∧ s₁ = { s with heap := h', toks := s₁.toks, gens := gs2 } ∧ IsTup h' a (strValues l).toArray ∧ l = bld.getD [] ∧ Fr g L h' (told [(Str.ofString "self", .ref x), (Str.ofString "with_build", .bool true), (Str.ofString "prerelease_key", .ref ap)] m') ∧ 
        News g L h' [(392, tabObj q), (x, instObj 457 dx), (dx, dictOf [en w "major" t1 v1, en w "minor" t2 v2, en w "patch" t3 v3, en w "prerelease" t4 vp, en w "build" t5 vb, en w "partial" t6 vr] k)])) ?_ ?_ fun _ _ e => e
      · k_steps
        refine truthy_tail (hbld.keeps F.keep) hlb fun tk' => ?_
        cases hb : someL bld
        · k_steps
          rename Fr _ _ _ _ => F'
          rename News _ _ _ _ => N'
          refine (show Hold _ from ⟨_, [], _, rfl, rfl, (N'.isTup (.head _)), ?_, F', fun p hp => N' p (.tail _ hp)⟩)
          cases bld with
          | none => rfl
          | some l => cases l with
            | nil => rfl
            | cons _ _ => cases hb
        · obtain ⟨lb, eb, ab, rfl, tb⟩ : ∃ lb, bld = some lb ∧ ∃ ab, vb = .ref ab ∧ IsTup g ab (strValues lb).toArray := by
            cases bld with
            | none => cases hb
            | some lb => obtain ⟨ab, e1, e2⟩ := hbld; exact ⟨lb, rfl, ab, e1, e2⟩
          k_steps
          exact (show Hold _ from ⟨ab, lb, _, rfl, rfl, tb.keeps F.keep, by rw [eb]; rfl, F, N⟩)
      · rintro xv s₁ ⟨ab, l, h3, rfl, es, tb, el, F, N⟩
        have hls2 : ∀ p ∈ l, IdS p.1 := fun p hp => by
          cases bld with
          | none => rw [el] at hp; cases hp
          | some lb => rw [el] at hp; exact hbs _ rfl p hp
        have hlen2 : l.length ≤ 400 := by
          cases bld with
          | none => rw [el]; exact Nat.zero_le _
          | some lb => rw [el]; exact hlb _ rfl
        rw [es]
        generalize s₁.toks = tk3
        have tab := TabP.toTab (c := 396) (codeB_at (C.keeps F.keep).K) (N _ (.head _)).1 hq
        refine (show Hold _ from ⟨_, _, fun _ y => ∃ a, y = .ref a, rfl, .inl tb, tab, G, F.keep, ?_, ?_⟩)
        · intro code C2 A' E' i v s₂ m₂ a1 a2 a3 hv hns hm hk
          obtain ⟨y, ty, rfl, hy⟩ : ∃ y ty, v = .str y ty ∧ IdS y := by
            simp only [strValues, List.getElem?_toArray, List.getElem?_map, Option.map_eq_some_iff] at hv
            obtain ⟨p, hp, rfl⟩ := hv
            exact ⟨_, _, rfl, hls2 p (List.mem_of_getElem? hp)⟩
          have C3 := C.keeps hk
          have T := C3.T
          have X := C3.K
          have hdA : A'.depth < 458 := Nat.lt_of_le_of_lt a2 (by rw [depth_deeper]; omega)
          revert X; k_fill; intro X
          refine wpAny_IfExp ?_
          walk1
          walk1
          refine wpAny_Name (wpAny_loadName_local rfl rfl hns hm ?_)
          (try dsimp only)
          walk1
          (try dsimp only)
          walk1
          (try dsimp only)
          walk1
          (try dsimp only)
          walk1
          (try dsimp only)
          walk1
          (try dsimp only)
          walk1
          · refine gname C3 ?_
            tb_rel
            refine wpAny_Name (wpAny_loadName_local rfl rfl hns hm ?_)
            tb_rel
            refine callK (numId_spec C3 hdA a1 hy.1 (fun c hc => ?_) hy.2.1) fun v h' tk' P hk' => ⟨P, _, _, rfl, hk'⟩
            have := ‹Txt.isdigit y = true›
            rw [isdigit_tx hy.2.2, Bool.and_eq_true] at this
            exact List.all_eq_true.mp this.2 c hc
          · tb_rel
            refine gname C3 ?_
            tb_rel
            refine wpAny_Name (wpAny_loadName_local rfl rfl hns hm ?_)
            tb_rel
            exact callK (alphaId_spec C3 hdA a1 hy.1 hy.2.2) fun v h' tk' P hk' => ⟨P, _, _, rfl, hk'⟩
        · intro a s₅ k5 tab5 G5 o5 d5 X5
          tb_rel
          refine tuple_genR X5 (by simpa [strValues] using hlen2) G5 fun s' acc k6 G6 o6 d6 hacc => ?_
          obtain ⟨h6, g6, dr6, t6, os6⟩ := s'
          obtain ⟨h5, g5, dr5, t5, os5⟩ := s₅
          dsimp only at k5 tab5 G5 o5 d5 k6 G6 o6 d6 ⊢
          subst o6 d6
          subst o5 d5
          have k56 : ∀ b o, b ≠ 392 → _ = some o → h6.get? b = some o := fun b o hb e => k6 b o (by rw [e]; rfl) (k5 b o hb e)
          obtain ⟨q5, e5, tr5⟩ := tab5.toP
          have e6 := k6 392 _ (by rw [(N _ (.head _)).1]; rfl) e5
          have F6 := (Fr.but F (hgn _ (.head _)) (N _ (.head _)).2.1 k56).push { cls := .type "tuple", data := .seq acc }
          have N6 := News.keeps (News.but N (by rfl) k56 e6) (fun b o e => Heap.get?_push_of_some { cls := .type "tuple", data := .seq acc } e)
          k_steps
          rename Fr _ _ _ _ => F'
          rename News _ _ _ _ => N'
          exact RetT.one G6 ⟨_, rfl⟩ (keepsT hg F' K fun p hp => (N' p (.tail _ (.tail _ hp))).1) (N' _ (.tail _ (.head _))).1 tr5
end Mine
end
section
set_option maxRecDepth 100000
namespace Mine
open PySem PySem.W PyProof.Rows PySem.Calls PySem.Builtin PySem.Builtin.Str
section
variable {prog : Program} {w : World} {A : Around} {E : Value → Shared → Prop} {s : Shared}
theorem reprUnder_str {b : Nat} {x : PySem.Str} {t : Tok} {Q : Value → Shared → Prop} (hx : (reprText x).length ≤ sizeLine) (h : Q (.str (reprText x) s.toks) { s with toks := s.toks + 1 }) : wpAny (model prog w) A (pyReprObjUnder b (.str x t)) Q E s := by
  have hv : [Value.str x t].any Value.onHeap = false := rfl
  unfold pyReprObjUnder pyReprObjBy
  simp only [cRoomFor, hv, Bool.false_eq_true, if_false, pure_bind]
  refine wpAny_bind (wpAny_specialOf (name := PySem.Str.ofString "__repr__") (typeIs_str s x t) F.slot_str_repr.lookup ?_)
  refine wpAny_bind (wpAny_callSpecialIfBoundBy?_slotG (name := PySem.Str.ofString "__repr__") (typeIs_str s x t) F.slot_str_repr.toG ?_)
  refine call_gives F.slot_str_repr (typeIs_str s x t) F.entry_str_repr (F.args_str_repr_1 _) (gives_str_repr x t) ⟨hx, ?_⟩
  exact wpAny_bind (wpAny_isInstance (T := "str") (b := true) rfl isSubtype_str_str (wpAny_pure h))
theorem repr_len {x : PySem.Str} (h : ∀ c ∈ tx x, c < 128) (hx : x.length ≤ 1000) : (reprText x).length ≤ 10002 :=
  Nat.le_trans (StrLaws.reprText_len x fun c hc => Nat.lt_trans (h c hc) (by decide)) (by omega)
variable {y : PySem.Str} {t u : Tok} {Q : Value → Shared → Prop}
theorem after_intB {M : Model} {A : Around} {E : Value → Shared → Prop} {s : Shared} {l : List Nat} {p : List Value} {r : List Nat} {f : Nat → List Value × Writer × List Nat → Sem (ForInStep (List Value × Writer × List Nat))} {Q : List Value × Writer × List Nat → Shared → Prop}
    {w : Writer} {T : PySem.Str} {N : Nat} {o : Option Value} {c : Percent} {n : Int} {d : List Nat} (g : KPc.Good w T N) (h1 : c.alt = false) (h2 : c.type = 100 ∨ c.type = 105 ∨ c.type = 117) (h3 : c.prec = none) (hn : 0 ≤ n) (hm : (PySem.Str.ofString (toString n)).length ≤ 1000)
    (hd : d = (PySem.Str.ofString (toString ((n.natAbs : Nat) : Int))).cps.toList) (ho : o = none) (h : ∀ w', KPc.Good w' (T ++ PySem.Str.ofString (toString n)) (N + 1000) → wpAny M A (forIn l (p, w', r) f) Q E s) :
    wpAny M A (forIn l (p, w.add ⟨(percentInt c (decide (n < 0)) d).toArray⟩ o, r) f) Q E s := by
  have en : ((n.natAbs : Nat) : Int) = n := Int.natAbs_of_nonneg hn
  rw [KPc.int_text c h1 h2 h3 hn, hd, en]
  exact KPc.after_str g hm (KPc.obj_none ho) h
theorem after_intB0 {M : Model} {A : Around} {E : Value → Shared → Prop} {s : Shared} {l : List Nat} {p : List Value} {r : List Nat} {f : Nat → List Value × Writer × List Nat → Sem (ForInStep (List Value × Writer × List Nat))} {Q : List Value × Writer × List Nat → Shared → Prop}
    {w : Writer} {N : Nat} {o : Option Value} {c : Percent} {n : Int} {d : List Nat} (g : KPc.Good w PySem.Str.empty N) (h1 : c.alt = false) (h2 : c.type = 100 ∨ c.type = 105 ∨ c.type = 117) (h3 : c.prec = none) (hn : 0 ≤ n) (hm : (PySem.Str.ofString (toString n)).length ≤ 1000)
    (hd : d = (PySem.Str.ofString (toString ((n.natAbs : Nat) : Int))).cps.toList) (ho : o = none) (h : ∀ w', KPc.Good w' (PySem.Str.ofString (toString n)) (N + 1000) → wpAny M A (forIn l (p, w', r) f) Q E s) :
    wpAny M A (forIn l (p, w.add ⟨(percentInt c (decide (n < 0)) d).toArray⟩ o, r) f) Q E s :=
  after_intB g h1 h2 h3 hn hm hd ho fun w' g' => h w' (by rw [KPc.empty_app] at g'; exact g')
theorem run_zero (z : PySem.Str) (hz : (reprText z).length ≤ 10002) : Meets («str.__mod__» ⟨[.str ⟨#[73, 110, 118, 97, 108, 105, 100, 32, 108, 101, 97, 100, 105, 110, 103, 32, 122, 101, 114, 111, 32, 105, 110, 32, 105, 100, 101, 110, 116, 105, 102, 105, 101, 114, 32, 37, 114]⟩ t, .str z u], []⟩) (fun _ R s => ∀ t' k, R (.ok (.ret (.str (PySem.Str.ofString "Invalid leading zero in identifier " ++ reprText z) t'))) { s with toks := k }) := by
  apply KPc.meets_of
  intro _ _ _ _ _ _ _
  rw [KPc.entry_is_s]
  unfold Builtin.Str.percentFormat
  refine wpAny_bind (wpAny_isInstance (typeIs_str _ _ _) F.sub_str_tuple ?_)
  refine wpAny_bind (wpAny_of_eq (a := some _) rfl ?_)
  refine wpAny_bind (KPc.wp_fills_str ?_)
  intro _
  kpc_if
  refine wpAny_bind (wpAny_pure ?_)
  refine wpAny_bind ?_
  rw [KPc.range_list]
  refine KPc.start ?_
  intro _ _
  refine KPc.turn ?_; kpc_check; (repeat kpc_if); refine wpAny_pure ?_; kpc_piece
  refine KPc.turn ?_; kpc_check; (repeat kpc_if); refine wpAny_bind ?_; refine wpAny_holding ?_; (repeat kpc_if); refine wpAny_bind ?_; refine reprUnder_str (by have := hz; rw [sizeLine_eq]; omega) ?_; refine wpAny_bind (wpAny_of_eq (a := some _) rfl ?_); refine wpAny_pure ?_; refine wpAny_pure ?_; refine KPc.after_str (by kpc_g) hz (by kpc_obj) ?_; intro _ _
  refine KPc.turn ?_; kpc_check; (repeat kpc_if); kpc_close
theorem mod_zero (hy : ∀ c ∈ tx y, c < 128) (hy2 : y.length ≤ 1000) (h : ∀ T t' k, Q (.str T t') { s with toks := k }) : wpAny (model prog w) A (binaryOp .Mod (.str (PySem.Str.ofString "Invalid leading zero in identifier %r") t) (.str y u)) Q E s := by
  rw [show PySem.Str.ofString "Invalid leading zero in identifier %r" = ⟨#[73, 110, 118, 97, 108, 105, 100, 32, 108, 101, 97, 100, 105, 110, 103, 32, 122, 101, 114, 111, 32, 105, 110, 32, 105, 100, 101, 110, 116, 105, 102, 105, 101, 114, 32, 37, 114]⟩ by decide +kernel]
  exact binaryOp_meets (T := "str") (op := .Mod) (typeIs_str s _ t) (typeIs_str s y u) F.fills_str_mod F.slot_str_mod F.entry_str_mod (F.args_str_mod_2 _ _) (run_zero y (repr_len hy hy2)) (fun t' k => ⟨(fun e => nomatch e), h _ t' k⟩)
theorem run_lacks (z : PySem.Str) (hz : (reprText z).length ≤ 10002) : Meets («str.__mod__» ⟨[.str ⟨#[86, 101, 114, 115, 105, 111, 110, 32, 115, 116, 114, 105, 110, 103, 32, 108, 97, 99, 107, 115, 32, 97, 32, 110, 117, 109, 101, 114, 105, 99, 97, 108, 32, 99, 111, 109, 112, 111, 110, 101, 110, 116, 58, 32, 37, 114]⟩ t, .str z u], []⟩) (fun _ R s => ∀ t' k, R (.ok (.ret (.str (PySem.Str.ofString "Version string lacks a numerical component: " ++ reprText z) t'))) { s with toks := k }) := by
  apply KPc.meets_of
  intro _ _ _ _ _ _ _
  rw [KPc.entry_is_s]
  unfold Builtin.Str.percentFormat
  refine wpAny_bind (wpAny_isInstance (typeIs_str _ _ _) F.sub_str_tuple ?_)
  refine wpAny_bind (wpAny_of_eq (a := some _) rfl ?_)
  refine wpAny_bind (KPc.wp_fills_str ?_)
  intro _
  kpc_if
  refine wpAny_bind (wpAny_pure ?_)
  refine wpAny_bind ?_
  rw [KPc.range_list]
  refine KPc.start ?_
  intro _ _
  refine KPc.turn ?_; kpc_check; (repeat kpc_if); refine wpAny_pure ?_; kpc_piece
  refine KPc.turn ?_; kpc_check; (repeat kpc_if); refine wpAny_bind ?_; refine wpAny_holding ?_; (repeat kpc_if); refine wpAny_bind ?_; refine reprUnder_str (by have := hz; rw [sizeLine_eq]; omega) ?_; refine wpAny_bind (wpAny_of_eq (a := some _) rfl ?_); refine wpAny_pure ?_; refine wpAny_pure ?_; refine KPc.after_str (by kpc_g) hz (by kpc_obj) ?_; intro _ _
  refine KPc.turn ?_; kpc_check; (repeat kpc_if); kpc_close
theorem mod_lacks (hy : ∀ c ∈ tx y, c < 128) (hy2 : y.length ≤ 1000) (h : ∀ T t' k, Q (.str T t') { s with toks := k }) : wpAny (model prog w) A (binaryOp .Mod (.str (PySem.Str.ofString "Version string lacks a numerical component: %r") t) (.str y u)) Q E s := by
  rw [show PySem.Str.ofString "Version string lacks a numerical component: %r" = ⟨#[86, 101, 114, 115, 105, 111, 110, 32, 115, 116, 114, 105, 110, 103, 32, 108, 97, 99, 107, 115, 32, 97, 32, 110, 117, 109, 101, 114, 105, 99, 97, 108, 32, 99, 111, 109, 112, 111, 110, 101, 110, 116, 58, 32, 37, 114]⟩ by decide +kernel]
  exact binaryOp_meets (T := "str") (op := .Mod) (typeIs_str s _ t) (typeIs_str s y u) F.fills_str_mod F.slot_str_mod F.entry_str_mod (F.args_str_mod_2 _ _) (run_lacks y (repr_len hy hy2)) (fun t' k => ⟨(fun e => nomatch e), h _ t' k⟩)
theorem mod_tupI {b : Addr} {its : Array Value} {X X' T : PySem.Str} (ht : IsTup s.heap b its) (hX : X = X')
    (hm : Meets («str.__mod__» ⟨[.str X' t, .ref b], []⟩) (fun _ R s => IsTup s.heap b its ∧ ∀ t' k, R (.ok (.ret (.str T t'))) { s with toks := k }))
    (h : ∀ t' k, Q (.str T t') { s with toks := k }) : wpAny (model prog w) A (binaryOp .Mod (.str X t) (.ref b)) Q E s := by
  subst hX
  have hT : s.TypeIs (.ref b) "tuple" := by
    obtain ⟨o, ho, hc, _⟩ := ht
    exact ⟨o, ho, hc⟩
  exact KPt.bin_left (T := "str") (U := "tuple") (op := .Mod) (by decide) (typeIs_str s X t) hT F.fills_str_mod KPt.fills_tuple F.slot_str_mod
    (call_meets F.slot_str_mod (typeIs_str s X t) F.entry_str_mod (F.args_str_mod_2 _ _) hm ⟨ht, fun t' k => ⟨(fun e => nomatch e), h t' k⟩⟩)
theorem run_empty (z y : PySem.Str) {u1 u2 : Tok} {b : Addr} (hz : (reprText z).length ≤ 10002) (hy : (reprText y).length ≤ 100002) : Meets («str.__mod__» ⟨[.str ⟨#[73, 110, 118, 97, 108, 105, 100, 32, 101, 109, 112, 116, 121, 32, 105, 100, 101, 110, 116, 105, 102, 105, 101, 114, 32, 37, 114, 32, 105, 110, 32, 37, 114]⟩ t, .ref b], []⟩) (fun _ R s => IsTup s.heap b #[.str z u1, .str y u2] ∧ ∀ t' k, R (.ok (.ret (.str (PySem.Str.ofString "Invalid empty identifier " ++ reprText z ++ PySem.Str.ofString " in " ++ reprText y) t'))) { s with toks := k }) := by
  apply KPt.meets_tup
  intro _ _ _ _ _ _ kptH _
  obtain ⟨kptO, kptG, kptC, kptN, kptD⟩ := kptH
  rw [KPt.entry_is_r]
  unfold Builtin.Str.percentFormat
  refine wpAny_bind (wpAny_isInstance (T := "tuple") ⟨kptO, kptG, kptC⟩ KPt.sub_tt ?_)
  refine wpAny_bind (KPt.asStr_ref kptG kptD ?_)
  refine wpAny_bind (KPt.fills_ref ⟨kptO, kptG, kptC⟩ ?_)
  intro _
  kpc_if
  refine wpAny_bind (wpAny_seqItems kptG kptD ?_)
  refine wpAny_bind (wpAny_pure ?_)
  refine wpAny_bind ?_
  rw [KPc.range_list]
  refine KPc.start ?_
  intro _ _
  refine KPc.turn ?_; kpc_check; (repeat kpc_if); refine wpAny_pure ?_; kpc_piece
  refine KPc.turn ?_; kpc_check; (repeat kpc_if); refine wpAny_bind ?_; refine wpAny_holding ?_; (repeat kpc_if); refine wpAny_bind ?_; refine reprUnder_str (by have := hz; rw [sizeLine_eq]; omega) ?_; refine wpAny_bind (wpAny_of_eq (a := some _) rfl ?_); refine wpAny_pure ?_; refine wpAny_pure ?_; refine KPc.after_str (by kpc_g) hz (by kpc_obj) ?_; intro _ _
  refine KPc.turn ?_; kpc_check; (repeat kpc_if); refine wpAny_pure ?_; kpc_piece
  refine KPc.turn ?_; kpc_check; (repeat kpc_if); refine wpAny_bind ?_; refine wpAny_holding ?_; (repeat kpc_if); refine wpAny_bind ?_; refine reprUnder_str (by have := hy; rw [sizeLine_eq]; omega) ?_; refine wpAny_bind (wpAny_of_eq (a := some _) rfl ?_); refine wpAny_pure ?_; refine wpAny_pure ?_; refine KPc.after_str (by kpc_g) hy (by kpc_obj) ?_; intro _ _
  refine KPc.turn ?_; kpc_check; (repeat kpc_if); kpc_close
theorem mod_empty {z : PySem.Str} {u1 u2 : Tok} {b : Addr} (ht : IsTup s.heap b #[.str z u1, .str y u2]) (hz : ∀ c ∈ tx z, c < 128) (hz2 : z.length ≤ 1000) (hy : ∀ c ∈ tx y, c < 128) (hy2 : y.length ≤ 10000) (h : ∀ T t' k, Q (.str T t') { s with toks := k }) : wpAny (model prog w) A (binaryOp .Mod (.str (PySem.Str.ofString "Invalid empty identifier %r in %r") t) (.ref b)) Q E s :=
  mod_tupI ht (show PySem.Str.ofString "Invalid empty identifier %r in %r" = ⟨#[73, 110, 118, 97, 108, 105, 100, 32, 101, 109, 112, 116, 121, 32, 105, 100, 101, 110, 116, 105, 102, 105, 101, 114, 32, 37, 114, 32, 105, 110, 32, 37, 114]⟩ by decide +kernel) (run_empty z y (repr_len hz hz2) (Nat.le_trans (StrLaws.reprText_len y fun c hc => Nat.lt_trans (hy c hc) (by decide)) (by omega))) (fun t' k => h _ t' k)
theorem run_d {n : Int} (hd : n.natAbs.log2 < 1920) (hn : 0 ≤ n) (hm : (PySem.Str.ofString (toString n)).length ≤ 1000) : Meets («str.__mod__» ⟨[.str ⟨#[37, 100]⟩ t, .int n u], []⟩) (fun _ R s => ∀ t' k, R (.ok (.ret (.str (PySem.Str.ofString (toString n)) t'))) { s with toks := k }) := by
  apply KPc.meets_of
  intro _ _ _ _ _ _ _
  rw [KPc.entry_is]
  unfold Builtin.Str.percentFormat
  refine wpAny_bind (wpAny_isInstance (typeIs_int _ _ _) F.sub_int_tuple ?_)
  refine wpAny_bind (wpAny_of_eq (a := none) rfl ?_)
  refine wpAny_bind (wpAny_of_eq (KPc.fills _ _) ?_)
  kpc_if
  refine wpAny_bind (wpAny_pure ?_)
  refine wpAny_bind ?_
  rw [KPc.range_list]
  refine KPc.start ?_
  intro _ _
  refine KPc.turn ?_; kpc_check; (repeat kpc_if); refine wpAny_bind ?_; refine wpAny_holding ?_; (repeat kpc_if); refine wpAny_bind (wpAny_of_eq (a := _) rfl ?_); (repeat kpc_if); refine wpAny_bind (wpAny_mkInt ?_)
  refine wpAny_bind (call_gives F.slot_int_repr (typeIs_int _ _ _) F.entry_int_repr (F.args_int_repr_1 _) (gives_int_repr _ _ (KPt.hd2 hd)) ⟨int_text_fits (KPt.hd2 hd), ?_⟩)
  refine wpAny_bind (wpAny_of_eq (a := some _) rfl ?_); refine wpAny_pure ?_; refine wpAny_pure ?_
  refine after_intB0 (by kpc_g) rfl (by kpc_kind) rfl hn hm rfl (by kpc_none) ?_; intro _ _
  refine KPc.turn ?_; kpc_check; (repeat kpc_if); kpc_close
theorem mod_d {n : Int} (hd : n.natAbs.log2 < 1920) (hn : 0 ≤ n) (hm : (PySem.Str.ofString (toString n)).length ≤ 1000) (h : ∀ t' k, Q (.str (PySem.Str.ofString (toString n)) t') { s with toks := k }) : wpAny (model prog w) A (binaryOp .Mod (.str (PySem.Str.ofString "%d") t) (.int n u)) Q E s :=
  KPc.mod_lit (show PySem.Str.ofString "%d" = ⟨#[37, 100]⟩ by decide +kernel) hd (fun _ _ => run_d hd hn hm) h
theorem run_sd {n : Int} (z : PySem.Str) {u1 u2 : Tok} {b : Addr} (hz : z.length ≤ 10000) (hd : n.natAbs.log2 < 1920) (hn : 0 ≤ n) (hm : (PySem.Str.ofString (toString n)).length ≤ 1000) : Meets («str.__mod__» ⟨[.str ⟨#[37, 115, 46, 37, 100]⟩ t, .ref b], []⟩) (fun _ R s => IsTup s.heap b #[.str z u1, .int n u2] ∧ ∀ t' k, R (.ok (.ret (.str (z ++ PySem.Str.ofString "." ++ PySem.Str.ofString (toString n)) t'))) { s with toks := k }) := by
  apply KPt.meets_tup
  intro _ _ _ _ _ _ kptH _
  obtain ⟨kptO, kptG, kptC, kptN, kptD⟩ := kptH
  rw [KPt.entry_is_r]
  unfold Builtin.Str.percentFormat
  refine wpAny_bind (wpAny_isInstance (T := "tuple") ⟨kptO, kptG, kptC⟩ KPt.sub_tt ?_)
  refine wpAny_bind (KPt.asStr_ref kptG kptD ?_)
  refine wpAny_bind (KPt.fills_ref ⟨kptO, kptG, kptC⟩ ?_)
  intro _
  kpc_if
  refine wpAny_bind (wpAny_seqItems kptG kptD ?_)
  refine wpAny_bind (wpAny_pure ?_)
  refine wpAny_bind ?_
  rw [KPc.range_list]
  refine KPc.start ?_
  intro _ _
  refine KPc.turn ?_; kpc_check; (repeat kpc_if); refine wpAny_bind ?_; refine wpAny_holding ?_; (repeat kpc_if); refine wpAny_bind ?_; kpc_if; refine wpAny_of_eq (KPc.strOf_str _ _) ?_; refine wpAny_bind (wpAny_of_eq (a := some _) rfl ?_); refine wpAny_pure ?_; refine wpAny_pure ?_; refine KPc.after_str0 (by kpc_g) hz (by kpc_obj) ?_; intro _ _
  refine KPc.turn ?_; kpc_check; (repeat kpc_if); refine wpAny_pure ?_; kpc_piece
  refine KPc.turn ?_; kpc_check; (repeat kpc_if); refine wpAny_bind ?_; refine wpAny_holding ?_; (repeat kpc_if); refine wpAny_bind (wpAny_of_eq (a := _) rfl ?_); (repeat kpc_if); refine wpAny_bind (wpAny_mkInt ?_)
  refine wpAny_bind (call_gives F.slot_int_repr (typeIs_int _ _ _) F.entry_int_repr (F.args_int_repr_1 _) (gives_int_repr _ _ (KPt.hd2 hd)) ⟨int_text_fits (KPt.hd2 hd), ?_⟩)
  refine wpAny_bind (wpAny_of_eq (a := some _) rfl ?_); refine wpAny_pure ?_; refine wpAny_pure ?_
  refine after_intB (by kpc_g) rfl (by kpc_kind) rfl hn hm rfl (by kpc_none) ?_; intro _ _
  refine KPc.turn ?_; kpc_check; (repeat kpc_if); kpc_close
theorem mod_sd {n : Int} {z : PySem.Str} {u1 u2 : Tok} {b : Addr} (ht : IsTup s.heap b #[.str z u1, .int n u2]) (hz : z.length ≤ 10000) (hd : n.natAbs.log2 < 1920) (hn : 0 ≤ n) (hm : (PySem.Str.ofString (toString n)).length ≤ 1000) (h : ∀ t' k, Q (.str (z ++ PySem.Str.ofString "." ++ PySem.Str.ofString (toString n)) t') { s with toks := k }) : wpAny (model prog w) A (binaryOp .Mod (.str (PySem.Str.ofString "%s.%d") t) (.ref b)) Q E s :=
  mod_tupI ht (show PySem.Str.ofString "%s.%d" = ⟨#[37, 115, 46, 37, 100]⟩ by decide +kernel) (run_sd z hz hd hn hm) h
theorem run_dash (z y : PySem.Str) {u1 u2 : Tok} {b : Addr} (hz : z.length ≤ 10000) (hy : y.length ≤ 10000) : Meets («str.__mod__» ⟨[.str ⟨#[37, 115, 45, 37, 115]⟩ t, .ref b], []⟩) (fun _ R s => IsTup s.heap b #[.str z u1, .str y u2] ∧ ∀ t' k, R (.ok (.ret (.str (z ++ PySem.Str.ofString "-" ++ y) t'))) { s with toks := k }) := by
  apply KPt.meets_tup
  intro _ _ _ _ _ _ kptH _
  obtain ⟨kptO, kptG, kptC, kptN, kptD⟩ := kptH
  rw [KPt.entry_is_r]
  unfold Builtin.Str.percentFormat
  refine wpAny_bind (wpAny_isInstance (T := "tuple") ⟨kptO, kptG, kptC⟩ KPt.sub_tt ?_)
  refine wpAny_bind (KPt.asStr_ref kptG kptD ?_)
  refine wpAny_bind (KPt.fills_ref ⟨kptO, kptG, kptC⟩ ?_)
  intro _
  kpc_if
  refine wpAny_bind (wpAny_seqItems kptG kptD ?_)
  refine wpAny_bind (wpAny_pure ?_)
  refine wpAny_bind ?_
  rw [KPc.range_list]
  refine KPc.start ?_
  intro _ _
  refine KPc.turn ?_; kpc_check; (repeat kpc_if); refine wpAny_bind ?_; refine wpAny_holding ?_; (repeat kpc_if); refine wpAny_bind ?_; kpc_if; refine wpAny_of_eq (KPc.strOf_str _ _) ?_; refine wpAny_bind (wpAny_of_eq (a := some _) rfl ?_); refine wpAny_pure ?_; refine wpAny_pure ?_; refine KPc.after_str0 (by kpc_g) hz (by kpc_obj) ?_; intro _ _
  refine KPc.turn ?_; kpc_check; (repeat kpc_if); refine wpAny_pure ?_; kpc_piece
  refine KPc.turn ?_; kpc_check; (repeat kpc_if); refine wpAny_bind ?_; refine wpAny_holding ?_; (repeat kpc_if); refine wpAny_bind ?_; kpc_if; refine wpAny_of_eq (KPc.strOf_str _ _) ?_; refine wpAny_bind (wpAny_of_eq (a := some _) rfl ?_); refine wpAny_pure ?_; refine wpAny_pure ?_; refine KPc.after_str (by kpc_g) hy (by kpc_obj) ?_; intro _ _
  refine KPc.turn ?_; kpc_check; (repeat kpc_if); kpc_close
theorem mod_dash {z : PySem.Str} {u1 u2 : Tok} {b : Addr} (ht : IsTup s.heap b #[.str z u1, .str y u2]) (hz : z.length ≤ 10000) (hy : y.length ≤ 10000) (h : ∀ t' k, Q (.str (z ++ PySem.Str.ofString "-" ++ y) t') { s with toks := k }) : wpAny (model prog w) A (binaryOp .Mod (.str (PySem.Str.ofString "%s-%s") t) (.ref b)) Q E s :=
  mod_tupI ht (show PySem.Str.ofString "%s-%s" = ⟨#[37, 115, 45, 37, 115]⟩ by decide +kernel) (run_dash z y hz hy) h
theorem run_plus (z y : PySem.Str) {u1 u2 : Tok} {b : Addr} (hz : z.length ≤ 10000) (hy : y.length ≤ 10000) : Meets («str.__mod__» ⟨[.str ⟨#[37, 115, 43, 37, 115]⟩ t, .ref b], []⟩) (fun _ R s => IsTup s.heap b #[.str z u1, .str y u2] ∧ ∀ t' k, R (.ok (.ret (.str (z ++ PySem.Str.ofString "+" ++ y) t'))) { s with toks := k }) := by
  apply KPt.meets_tup
  intro _ _ _ _ _ _ kptH _
  obtain ⟨kptO, kptG, kptC, kptN, kptD⟩ := kptH
  rw [KPt.entry_is_r]
  unfold Builtin.Str.percentFormat
  refine wpAny_bind (wpAny_isInstance (T := "tuple") ⟨kptO, kptG, kptC⟩ KPt.sub_tt ?_)
  refine wpAny_bind (KPt.asStr_ref kptG kptD ?_)
  refine wpAny_bind (KPt.fills_ref ⟨kptO, kptG, kptC⟩ ?_)
  intro _
  kpc_if
  refine wpAny_bind (wpAny_seqItems kptG kptD ?_)
  refine wpAny_bind (wpAny_pure ?_)
  refine wpAny_bind ?_
  rw [KPc.range_list]
  refine KPc.start ?_
  intro _ _
  refine KPc.turn ?_; kpc_check; (repeat kpc_if); refine wpAny_bind ?_; refine wpAny_holding ?_; (repeat kpc_if); refine wpAny_bind ?_; kpc_if; refine wpAny_of_eq (KPc.strOf_str _ _) ?_; refine wpAny_bind (wpAny_of_eq (a := some _) rfl ?_); refine wpAny_pure ?_; refine wpAny_pure ?_; refine KPc.after_str0 (by kpc_g) hz (by kpc_obj) ?_; intro _ _
  refine KPc.turn ?_; kpc_check; (repeat kpc_if); refine wpAny_pure ?_; kpc_piece
  refine KPc.turn ?_; kpc_check; (repeat kpc_if); refine wpAny_bind ?_; refine wpAny_holding ?_; (repeat kpc_if); refine wpAny_bind ?_; kpc_if; refine wpAny_of_eq (KPc.strOf_str _ _) ?_; refine wpAny_bind (wpAny_of_eq (a := some _) rfl ?_); refine wpAny_pure ?_; refine wpAny_pure ?_; refine KPc.after_str (by kpc_g) hy (by kpc_obj) ?_; intro _ _
  refine KPc.turn ?_; kpc_check; (repeat kpc_if); kpc_close
theorem mod_plus {z : PySem.Str} {u1 u2 : Tok} {b : Addr} (ht : IsTup s.heap b #[.str z u1, .str y u2]) (hz : z.length ≤ 10000) (hy : y.length ≤ 10000) (h : ∀ t' k, Q (.str (z ++ PySem.Str.ofString "+" ++ y) t') { s with toks := k }) : wpAny (model prog w) A (binaryOp .Mod (.str (PySem.Str.ofString "%s+%s") t) (.ref b)) Q E s :=
  mod_tupI ht (show PySem.Str.ofString "%s+%s" = ⟨#[37, 115, 43, 37, 115]⟩ by decide +kernel) (run_plus z y hz hy) h
end
end Mine
end
section
set_option maxRecDepth 100000
local macro_rules | `(tactic| k_steps) => `(tactic| ((try dsimp only); repeat' (first | ((fail_if_success (with_reducible show PySem.wpAny _ _ (PySem.pyIter (PySem.Value.ref _)) _ _ _)); (fail_if_success (with_reducible show PySem.wpAny _ _ (PySem.exec (PySem.Stmt.Raise _ _ _) _) _ _ _)); (fail_if_success (with_reducible show PySem.wpAny _ _ (PySem.binaryOp PySem.Operator.Mod _ _) _ _ _)); (fail_if_success (with_reducible show PySem.wpAny _ _ (PySem.exec (PySem.Stmt.While _ _ _ _) _) _ _ _)); first | (with_reducible refine PySem.wpAny_execs_cons ?_) | ((try dsimp only); walk1)) | fail "no step")))
local macro_rules | `(tactic| tb_rel) => `(tactic| ((try dsimp only); repeat' (first | ((fail_if_success (with_reducible show PySem.wpAny _ _ (PySem.exec (PySem.Stmt.If _ _ _ _) _) _ _ _)); (fail_if_success (with_reducible show PySem.wpAny _ _ (PySem.pyIter (PySem.Value.ref _)) _ _ _)); (fail_if_success (with_reducible show PySem.wpAny _ _ (PySem.exec (PySem.Stmt.Raise _ _ _) _) _ _ _)); (fail_if_success (with_reducible show PySem.wpAny _ _ (PySem.binaryOp PySem.Operator.Mod _ _) _ _ _)); (fail_if_success (with_reducible show PySem.wpAny _ _ (PySem.exec (PySem.Stmt.While _ _ _ _) _) _ _ _)); first | (with_reducible refine PySem.wpAny_execs_cons ?_) | ((try dsimp only); walk1)) | fail "no step")))
namespace Mine
open PySem PySem.W PyProof.Rows PySem.Calls
local macro_rules | `(tactic| tb_start) => `(tactic| (have X := Ctx.K (by assumption); revert X; delta PR; k_fill; intro X; refine' enter (by assumption) (by k_is) (by k_is) (Nat.lt_trans (by assumption) (by decide)) ?hb (locs ?hl) ?_ rfl rfl rfl (by decide)))
variable {w : World} {loose : List Str} {mg mb : Str → Option Value} {mean : ExcName → Option Value} {A : Around} {s : Shared} {E : Value → Shared → Prop}

local macro_rules | `(tactic| walk_at "leaving ref") => `(tactic| ((refine' leave_raiseS ?k1 ?k0 ?k2 ?k3 ?_; (case k0 => first | assumption | exact Heap.MadeExc.of (by assumption)); (case k1 => assumption); (case k2 => assumption); (case k3 => assumption)); intro h' t' RS' R' U'; clear R'; (try dsimp only at RS' U' ⊢)))
/-- a ValueError that leaves a call -/
def Err (base G : Heap) (outer : List Env) (s : Shared) (r : Result) (s' : Shared) : Prop :=
  ∃ e t vs h' tk, r = .error (.ref e) ∧ s' = { s with heap := h', toks := tk } ∧ RaisedS base G outer e (.type "ValueError") t vs [] h' ∧ G.UpToSlots h'
theorem bad_yes {y : Str} (hp : ∀ c ∈ tx y, c < 128) (h0 : (y == Str.ofString "") = false) (h1 : (Txt.item y 0 == Str.ofString "0") = true) (h2 : Txt.isdigit y = true) (h3 : (y != Str.ofString "0") = true) : badI true (tx y) = true := by
  rw [bad_of h0, h1]
  rw [head_item h0] at h1
  rw [isdigit_tx hp, Bool.and_eq_true] at h2
  rw [h2.2, Bool.true_and, Bool.and_true, Bool.and_true, decide_eq_true_eq]
  rw [ne_str, show tx (Str.ofString "0") = [48] by decide +kernel] at h3
  rw [← tx_len]
  match hq : tx y with
  | [] => rw [hq] at h1; simp at h1
  | [c] =>
    rw [hq] at h1 h3
    simp at h1 h3
    exact absurd h1 h3
  | _ :: _ :: r => simp
theorem bad_no1 {y : Str} {b : Bool} (h0 : (y == Str.ofString "") = false) (h3 : (y != Str.ofString "0") = false) : badI b (tx y) = false := by
  rw [ne_str, show tx (Str.ofString "0") = [48] by decide +kernel] at h3
  have : tx y = [48] := by simpa using h3
  rw [this]; cases b <;> rfl
theorem bad_no2 {y : Str} {b : Bool} (hp : ∀ c ∈ tx y, c < 128) (h0 : (y == Str.ofString "") = false) (h2 : Txt.isdigit y = false) : badI b (tx y) = false := by
  rw [bad_of h0]
  rw [isdigit_tx hp] at h2
  rw [eq_str, tx_nil] at h0
  have : (tx y).isEmpty = false := by simpa using of_decide_eq_false h0
  rw [this, Bool.not_false, Bool.true_and] at h2
  rw [h2, Bool.and_false, Bool.and_false, Bool.and_false]
theorem bad_no3 {y : Str} {b : Bool} (h0 : (y == Str.ofString "") = false) (h1 : (Txt.item y 0 == Str.ofString "0") = false) : badI b (tx y) = false := by
  rw [bad_of h0, h1, Bool.false_and, Bool.and_false, Bool.and_false]
theorem join_all {P : Nat → Prop} {sep : Str} (hs : ∀ c ∈ tx sep, P c) : ∀ l : List Str, (∀ x ∈ l, ∀ c ∈ tx x, P c) → ∀ c ∈ tx (Str.join sep l), P c
  | [], _, c, hc => by simp [Str.join, Str.empty, tx] at hc
  | [x], h, c, hc => h x (.head _) c hc
  | x :: y :: r, h, c, hc => by
    have e : Str.join sep (x :: y :: r) = x ++ sep ++ Str.join sep (y :: r) := rfl
    rw [e, tx_append, tx_append] at hc
    rcases List.mem_append.mp hc with hc | hc
    · rcases List.mem_append.mp hc with hc | hc
      · exact h x (.head _) c hc
      · exact hs c hc
    · exact join_all hs (y :: r) (fun z hz => h z (.tail _ hz)) c hc
theorem join_repr {l : List (Str × Tok)} (hx : ∀ p ∈ l, p.1.length ≤ 300 ∧ ∀ c ∈ tx p.1, c < 128) (hl : l.length ≤ 400) : (reprText (Str.join (Str.ofString ".") (l.map (·.1)))).length ≤ 1300000 := by
  have h1 := join_len (sep := Str.ofString ".") (b := 300) (l := l.map (·.1)) (fun x h => by obtain ⟨p, hp, rfl⟩ := List.mem_map.mp h; exact (hx p hp).1)
  have h2 := StrLaws.reprText_len (Str.join (Str.ofString ".") (l.map (·.1))) (join_all (P := fun c => c < 16 ^ 8) (by decide +kernel) _ (fun x h => by obtain ⟨p, hp, rfl⟩ := List.mem_map.mp h; exact fun c hc => Nat.lt_trans ((hx p hp).2 c hc) (by decide)))
  rw [List.length_map, show (Str.ofString ".").length = 1 by decide +kernel] at h1
  have : l.length * (300 + 1) ≤ 400 * 301 := Nat.mul_le_mul_right _ hl
  omega
theorem sum_len_le {b : Nat} : ∀ {l : List (Str × Tok)}, (∀ p ∈ l, p.1.length ≤ b) → ((l.map (·.1)).map (·.length)).sum ≤ l.length * b
  | [], _ => Nat.zero_le _
  | p :: r, h => by
    have := sum_len_le fun q hq => h q (.tail _ hq)
    have := h p (.head _)
    simp only [List.map_cons, List.sum_cons, List.length_cons, Nat.add_mul, Nat.one_mul]
    omega
theorem tup_join {prog : Program} {A : Around} {E : Value → Shared → Prop} {l : List (Str × Tok)} {D : Addr} {x : Str} {t : Tok} {Q : Value → Shared → Prop} (hl : IsTup s.heap D (strValues l).toArray) (hb : ∀ p ∈ l, p.1.length ≤ 300) (h4 : l.length ≤ 400) (hx : x.length ≤ 1)
    (h : ∀ t' k, Q (.str (Str.join x (l.map (·.1))) t') { s with toks := k }) : wpAny (model prog w) A (call (.builtin "str.join") [.str x t, .ref D]) Q E s := by
  refine join_tuple hl (strsAre_of_values l) ?_ fun t' k => ?_
  · have := sum_len_le hb
    have : (l.map (·.1)).length * x.length ≤ 400 * 1 := Nat.mul_le_mul (by rw [List.length_map]; exact h4) hx
    have : l.length * 300 ≤ 400 * 300 := Nat.mul_le_mul_right _ h4
    omega
  · rw [Txt.join, StrLaws.glued_eq_join]; exact h t' k
/-- how a call that may refuse ends -/
def May (c : Bool) (base G : Heap) (outer : List Env) (s : Shared) (P : Value → Heap → Prop) (r : Result) (s' : Shared) : Prop := if c then Err base G outer s r s' else Ret s P r s'
theorem May.err {c : Bool} {base G : Heap} {outer : List Env} {s : Shared} {P : Value → Heap → Prop} {r : Result} {s' : Shared} (hc : c = true) (h : Err base G outer s r s') : May c base G outer s P r s' := by unfold May; rw [hc, if_pos rfl]; exact h
theorem May.ok {c : Bool} {base G : Heap} {outer : List Env} {s : Shared} {P : Value → Heap → Prop} {r : Result} {s' : Shared} (hc : c = false) (h : Ret s P r s') : May c base G outer s P r s' := by unfold May; rw [hc, if_neg (by decide)]; exact h
theorem RaisedS.sub {base G : Heap} {l : List Env} {e : Addr} {cls : Value} {t : Addr} {vs : List Value} {news nx : List (Addr × Obj)} {h : Heap} (R : RaisedS base G l e cls t vs news h) (hs : ∀ p ∈ nx, p ∈ news) : RaisedS base G l e cls t vs nx h := by
  obtain ⟨⟨B, h1, h2, h3, h4⟩, h5⟩ := R
  exact ⟨⟨B, h1, h2, fun q hq => h3 q (hs q hq), h4⟩, h5⟩
theorem raise_VE {A : Around} {h₀ : Heap} {L a : Addr} {m : Str → Option Value} {cn : Str} {cs : Scope} {ccd : Value} {np cpos pos : Pos} {e₀ : Expr} {rest : List Expr} {Q : Flow → Shared → Prop} (C : Ctx w loose mg mb mean h₀) (F : Fr h₀ L s.heap m) (hh : A.handled = none)
    (h : wpAny (model PR w) A (spliced (backTo cpos (starEach (e₀ :: rest) (envOf cn cs L a ccd)))) (fun vs s₂ => vs.length ≤ sizeLine ∧ ∀ h' e, Heap.MadeExc s₂.heap h' e "ValueError" vs → E (.ref e) { s₂ with heap := h' }) E s)
    (hk : cs.kind = .function := by rfl) (hx : (envOf cn cs L a ccd).kindOf (Str.ofString "ValueError") = some .globalImplicit := by rfl)
    (he : starEach (e₀ :: rest) (envOf cn cs L a ccd) = (false, eval e₀ (envOf cn cs L a ccd)) :: starEach rest (envOf cn cs L a ccd) := by rfl) (hplain : (backTo cpos (starEach rest (envOf cn cs L a ccd))).any (·.1) = false := by rfl) :
    wpAny (model PR w) A (exec (.Raise (some (.Call (.Name (Str.ofString "ValueError") np) (e₀ :: rest) [] cpos)) none pos) (envOf cn cs L a ccd)) Q E s :=
  Raise_madeB PySem.F.excCall_ValueError PySem.F.excRaise_ValueError hh (name_B (v := .type "ValueError") F C.K (topRead_of C.T) (by rfl) Boot.«ValueError» (by decide) ⟨rfl, h⟩ hk hx) he hplain
set_option maxHeartbeats 4000000 in
theorem validate_spec {base : Heap} {outer : List Env} (C : Ctx w loose mg mb mean s.heap) (B : Below A base outer s.heap) (hd : A.depth < 450) (hh : A.handled = none) {l : List (Str × Tok)} {a : Addr} (tp : IsTup s.heap a (strValues l).toArray)
    (hl : l.length ≤ 400) (hx : ∀ p ∈ l, p.1.length ≤ 300 ∧ ∀ c ∈ tx p.1, c < 128) {b : Bool} :
    codeAny (model PR w) A (.call (.ref 362) ⟨[.ref 457, .ref a], [(Str.ofString "allow_leading_zeroes", .bool b)]⟩) (May (l.any fun p => badI (!b) (tx p.1)) base s.heap outer s (fun v _ => v = .none)) s := by
  tb_start
  case hb => exact kp_binds (K := KK w.params) (Ctx.K (by assumption)) (binds := [("cls", .ref 457), ("identifiers", .ref a), ("allow_leading_zeroes", .bool b)]) (fun S => rfl)
  case hl => rfl
  intro L h₁ tk hL htk F C'
  have T := C.T
  have N : News s.heap L h₁ [] := News.nil
  k_steps
  refine For_invVF F rfl rfl ?_ (hE := by passes_own)
  k_steps
  refine iterJ_tuple (L := L) (fun i m nx => nx = [] ∧ m "cls" = some (.ref 457) ∧ m "identifiers" = some (.ref a) ∧ m "allow_leading_zeroes" = some (.bool b) ∧ ((l.take i).any fun p => badI (!b) (tx p.1)) = false) rfl hh (s := { s with heap := h₁, toks := tk }) (tp.keeps F.keep) (fun e => by subst e; obtain ⟨_, e, _⟩ := tp; exact absurd (Heap.lt_size e) (by rw [hL]; exact Nat.lt_irrefl _)) (fun p hp => by cases hp) F News.nil ?_ ?_ ?_
  · exact ⟨rfl, rfl, rfl, rfl, rfl⟩
  · rintro i v m1 nx h tk1 own hv ⟨rfl, f0, f1, f2, f3⟩ hadr hoff F2 N2
    obtain ⟨y, ty, rfl, q, hq, hy⟩ : ∃ y ty, v = .str y ty ∧ ∃ q, l[i]? = some q ∧ q.1 = y := by
      simp only [strValues, List.getElem?_toArray, List.getElem?_map, Option.map_eq_some_iff] at hv
      obtain ⟨q, hq, rfl⟩ := hv
      exact ⟨_, _, rfl, q, hq, rfl⟩
    have F3 := explX F2 [(_, _), (_, _), (_, _)] (by simp only [List.forall_mem_cons]; exact ⟨f0, f1, f2, List.forall_mem_nil _⟩) rfl
    clear F2 F
    obtain ⟨hy1, hy2⟩ := hy ▸ hx q (List.mem_of_getElem? hq)
    have no : badI (!b) (tx y) = false → ((l.take (i + 1)).any fun p => badI (!b) (tx p.1)) = false := fun e => by
      rw [List.take_add_one, List.any_append, f3, hq]
      simpa [hy] using e
    have yes : badI (!b) (tx y) = true → (l.any fun p => badI (!b) (tx p.1)) = true := fun e => List.any_eq_true.mpr ⟨q, List.mem_of_getElem? hq, by rw [hy]; exact e⟩
    have ne0 : (y.length : Int) ≠ 0 → (y == Str.ofString "") = false := fun e => by
      rw [eq_str, tx_nil, decide_eq_false]
      intro e2
      rw [← tx_len, e2] at e
      exact e rfl
    k_steps
    · refine TEnd.intro (nx := []) F3 N2 (fun p hp => hp) rfl ⟨rfl, rfl, rfl, rfl, no ?_⟩
      rw [bad_of (ne0 ‹_›)]; simp only [‹b = true›]; rfl
    · refine raise_VE C F3 hh ?_
      k_steps
      refine mod_zero hy2 (Nat.le_trans hy1 (by decide)) fun T' t' k' => ?_
      k_steps
      refine May.err (yes ?_) ⟨_, _, _, _, _, rfl, rfl, RaisedS.sub ‹RaisedS _ _ _ _ _ _ _ _ _› (fun p hp => nomatch hp), ‹_›⟩
      rw [‹b = false›]
      exact bad_yes hy2 (ne0 ‹_›) ‹_› ‹_› ‹_›
    · exact TEnd.intro (nx := []) F3 N2 (fun p hp => hp) rfl ⟨rfl, rfl, rfl, rfl, no (bad_no1 (ne0 ‹_›) ‹_›)⟩
    · exact TEnd.intro (nx := []) F3 N2 (fun p hp => hp) rfl ⟨rfl, rfl, rfl, rfl, no (bad_no2 hy2 (ne0 ‹_›) ‹_›)⟩
    · exact TEnd.intro (nx := []) F3 N2 (fun p hp => hp) rfl ⟨rfl, rfl, rfl, rfl, no (bad_no3 (ne0 ‹_›) ‹_›)⟩
    · obtain rfl : y = Str.ofString "" := tx_inj (by rw [tx_nil]; exact List.length_eq_zero_iff.mp (by rw [tx_len]; omega))
      refine raise_VE C F3 hh ?_
      k_steps
      refine tup_join (tp.keeps F3.keep) (fun p hp => (hx p hp).1) hl (by decide +kernel) fun t' k' => ?_
      k_steps
      have hj := join_repr hx hl
      refine wpAny_pyReprObj_str ?_ (Nat.le_trans hj (by decide))
      k_steps
      exact May.err (yes rfl) ⟨_, _, _, _, _, rfl, rfl, RaisedS.sub ‹RaisedS _ _ _ _ _ _ _ _ _› (fun p hp => nomatch hp), ‹_›⟩
  · rintro m1 nx h tk1 ⟨rfl, f0, f1, f2, f3⟩ hadr F2 N2
    k_steps
    refine May.ok ?_ (Ret.intro rfl F2.keep)
    have e : (strValues l).toArray.size = l.length := by simp [strValues]
    rw [e, List.take_length] at f3
    exact f3
end Mine
end
section
set_option maxRecDepth 100000
namespace Mine
open PySem PySem.W PyProof.Rows PySem.Calls
theorem slot_re_match : Slot "re.Pattern" "match" "re.Pattern.match" :=
  .of (owner := "re.Pattern") (n := "match") (by rw [typeLookup_type, builtinLookup_eq_fast]; kernel_rfl) (by decide +kernel) (by decide +kernel) (by decide +kernel)
    (by first | exact .inl (by decide +kernel) | exact .inr (by decide +kernel)) (by rw [isSubtype_type]; kernel_rfl)
theorem type_re_match : typeOf (.builtin "re.Pattern.match") = pure (.type "method_descriptor") := by show builtinType _ = _; rw [builtinType_eq_fast]; kernel_rfl
theorem entry_re_match : entryFor table "re.Pattern.match" = some Builtin.«re.Pattern.match» := entryFor_of_tree (by kernel_rfl)
theorem plainAttrs_rePattern : PlainAttrs "re.Pattern" :=
  ⟨⟨"object.__getattribute__", by rw [typeLookup_type, builtinLookup_eq_fast]; kernel_rfl, by decide +kernel⟩, by rw [typeLookup_type, builtinLookup_eq_fast]; kernel_rfl⟩
theorem args_re_match (a b : Value) : argsOk "re.Pattern.match" ⟨[a, b], []⟩ := by unfold argsOk; kernel_rfl
end Mine
end
section
set_option maxRecDepth 100000
namespace Mine
open PySem PySem.Sre
/-- frames that hand a yes on -/
def good : Wait → Bool
  | .nextStart | .giveBack | .closeLoop | .maxMore | .maxTail => true
  | _ => false
/-- a machine on its way -/
structure At (C t : Array Nat) (lim st pc pos : Nat) (marks : Array (Option Nat)) (lastmark : Int) (loops : Array Loop) (inner : Option Nat) (W : Nat) (m : M) : Prop where
  code : m.code = C
  text : m.text = t
  lim : m.lim = lim
  start : m.start = st
  whole : m.wholeText = false
  must : m.mustAdvance = false
  pc : m.pc = pc
  pos : m.pos = pos
  marks : m.marks = marks
  last : m.lastmark = lastmark
  loops : m.loops = loops
  inner : m.inner = inner
  frames : ∀ f ∈ m.frames, good f.wait = true
  weight : m.weight ≤ W
  answer : m.answer = none
  outcome : m.outcome = none
  size : m.frames.length ≤ W
/-- a machine that answered yes -/
structure Yes (st e : Nat) (marks : Array (Option Nat)) (lastmark : Int) (m : M) : Prop where
  start : m.start = st
  handed : m.handed = e
  marks : m.marks = marks
  last : m.lastmark = lastmark
  frames : ∀ f ∈ m.frames, good f.wait = true
  answer : m.answer = some true
  outcome : m.outcome = none
structure Done (st e : Nat) (marks : Array (Option Nat)) (lastmark : Int) (m : M) : Prop where
  start : m.start = st
  handed : m.handed = e
  marks : m.marks = marks
  last : m.lastmark = lastmark
  outcome : m.outcome = some .matched
def Ev (k : Nat) (m : M) (P : M → Prop) : Prop := ∃ n, n ≤ k ∧ P (M.runFor n m)
theorem runFor_succ (n : Nat) (m : M) : M.runFor (n + 1) m = if m.outcome.isSome then m else M.runFor n m.step := rfl
theorem runFor_stay (n : Nat) {m : M} (h : m.outcome.isSome = true) : M.runFor n m = m := by
  cases n with
  | zero => rfl
  | succ n => rw [runFor_succ, if_pos h]
theorem runFor_add (a b : Nat) (m : M) : M.runFor (a + b) m = M.runFor b (M.runFor a m) := by
  induction a generalizing m with
  | zero => rw [Nat.zero_add]; rfl
  | succ a ih =>
    rw [show a + 1 + b = (a + b) + 1 by omega, runFor_succ, runFor_succ]
    split
    · rename_i h
      rw [runFor_stay b h]
    · exact ih _
theorem Ev.bind {a b : Nat} {m : M} {P Q : M → Prop} (h : Ev a m P) (k : ∀ m', P m' → Ev b m' Q) : Ev (a + b) m Q := by
  obtain ⟨n, hn, p⟩ := h
  obtain ⟨n', hn', q⟩ := k _ p
  exact ⟨n + n', by omega, by rw [runFor_add]; exact q⟩
theorem Ev.one {m : M} {P : M → Prop} (ho : m.outcome = none) (h : P m.step) : Ev 1 m P := ⟨1, Nat.le_refl _, by
  rw [M.runFor, ho]; exact h⟩
theorem Ev.mono {a : Nat} {m : M} {P Q : M → Prop} (h : Ev a m P) (k : ∀ m', P m' → Q m') : Ev a m Q := by
  obtain ⟨n, hn, p⟩ := h; exact ⟨n, hn, k _ p⟩
theorem Ev.le {a b : Nat} {m : M} {P : M → Prop} (h : Ev a m P) (k : a ≤ b) : Ev b m P := by
  obtain ⟨n, hn, p⟩ := h; exact ⟨n, by omega, p⟩
theorem Ev.zero {m : M} {P : M → Prop} (h : P m) : Ev 0 m P := ⟨0, Nat.le_refl _, h⟩
/-- a yes runs home -/
theorem Yes.home {st e : Nat} {marks : Array (Option Nat)} {lastmark : Int} : ∀ (k : Nat) (m : M), m.frames.length = k → Yes st e marks lastmark m → Ev (k + 1) m (Done st e marks lastmark)
  | 0, m, hk, Y => by
    have hf : m.frames = [] := List.length_eq_zero_iff.mp hk
    refine Ev.one Y.outcome ?_
    have : m.step = { m with outcome := some .matched } := by
      unfold M.step
      rw [Y.outcome, Y.answer, hf]; rfl
    rw [this]
    exact ⟨Y.start, Y.handed, Y.marks, Y.last, rfl⟩
  | k + 1, m, hk, Y => by
    obtain ⟨f, r, hf⟩ : ∃ f r, m.frames = f :: r := List.exists_cons_of_ne_nil (fun e => by rw [e] at hk; cases hk)
    have gf := Y.frames f (by rw [hf]; exact .head _)
    have gr : ∀ g ∈ r, good g.wait = true := fun g hg => Y.frames g (by rw [hf]; exact .tail _ hg)
    have hr : r.length = k := by rw [hf] at hk; simpa using hk
    have es : m.step = M.resume { m with answer := none, frames := r, weight := m.weight - (1 + f.kept.marks.size), pc := f.pc, pos := f.pos, outermost := f.outermost } f true := by
      unfold M.step
      rw [Y.outcome, Y.answer, hf]; rfl
    have : (∃ m', m.step = m' ∧ Yes st e marks lastmark m' ∧ m'.frames.length = k) := by
      rw [es]
      unfold M.resume
      cases hw : f.wait <;> rw [hw] at gf <;> first | cases gf | skip
      all_goals
        simp only [if_true]
        refine ⟨_, rfl, ⟨Y.start, Y.handed, Y.marks, Y.last, gr, rfl, Y.outcome⟩, hr⟩
    obtain ⟨m', e1, Y', hl⟩ := this
    have one : Ev 1 m (fun x => x = m') := Ev.one Y.outcome e1
    refine ((one.bind (b := k + 1) fun x hx => ?_)).le (by omega)
    subst hx
    exact Yes.home k x hl Y'
end Mine
end
section
set_option maxRecDepth 100000
namespace Mine
open PySem PySem.Sre
section
variable {C t : Array Nat} {lim st pc pos W : Nat} {mk : Array (Option Nat)} {lm : Int} {ls : Array Loop} {inn : Option Nat} {m : M}
abbrev St (C t : Array Nat) (lim st pc pos : Nat) (mk : Array (Option Nat)) (lm : Int) (ls : Array Loop) (inn : Option Nat) (lst hd : Nat) (out : Bool) (li : Int) (fr : List Sre.Frame) (wt : Nat) (sn : Seen) : M :=
  { code := C, text := t, lim := lim, start := st, lastStart := lst, wholeText := false, mustAdvance := false, pc := pc, pos := pos, handed := hd, outermost := out, marks := mk, lastmark := lm, lastindex := li, loops := ls, inner := inn, frames := fr, weight := wt, answer := none, seen := sn, outcome := none }
theorem At.eq (A : At C t lim st pc pos mk lm ls inn W m) : ∃ lst hd out li fr wt sn, m = St C t lim st pc pos mk lm ls inn lst hd out li fr wt sn ∧ (∀ f ∈ fr, good f.wait = true) ∧ wt ≤ W ∧ fr.length ≤ W := by
  obtain ⟨a1, a2, a3, a4, a5, a6, a7, a8, a9, a10, a11, a12, a13, a14, a15, a16, a17⟩ := A
  refine ⟨m.lastStart, m.handed, m.outermost, m.lastindex, m.frames, m.weight, m.seen, ?_, a13, a14, a17⟩
  subst a1 a2 a3 a4 a7 a8 a9 a10 a11 a12
  cases m
  simp only at a5 a6 a15 a16
  subst a5 a6 a15 a16
  rfl
theorem At.mk' {lst hd : Nat} {out : Bool} {li : Int} {fr : List Sre.Frame} {wt : Nat} {sn : Seen} (hf : ∀ f ∈ fr, good f.wait = true) (hw : wt ≤ W) (hl : fr.length ≤ W) : At C t lim st pc pos mk lm ls inn W (St C t lim st pc pos mk lm ls inn lst hd out li fr wt sn) :=
  ⟨rfl, rfl, rfl, rfl, rfl, rfl, rfl, rfl, rfl, rfl, rfl, rfl, hf, hw, rfl, rfl, hl⟩
theorem At.step_exec (A : At C t lim st pc pos mk lm ls inn W m) (hpc : pc < C.size) : m.step = m.exec := by
  unfold M.step
  rw [A.outcome, A.answer]
  simp only [Option.isSome_none, Bool.false_eq_true, if_false, A.pc, A.code, if_pos hpc]
theorem At.one (A : At C t lim st pc pos mk lm ls inn W m) (hpc : pc < C.size) {P : M → Prop} (h : P m.exec) : Ev 1 m P := Ev.one A.outcome (by rw [A.step_exec hpc]; exact h)
theorem At.lit (A : At C t lim st pc pos mk lm ls inn W m) {c : Nat} (hpc : pc < C.size) (h0 : C.getD pc 0 = 16) (h1 : C.getD (pc + 1) 0 = c) (hp : pos < lim) (ht : t.getD pos 0 = c) :
    Ev 1 m (At C t lim st (pc + 2) (pos + 1) mk lm ls inn W) := by
  obtain ⟨lst, hd, out, li, fr, wt, sn, rfl, hf, hw, hl⟩ := A.eq
  refine A.one hpc ?_
  have e : (St C t lim st pc pos mk lm ls inn lst hd out li fr wt sn).exec = St C t lim st (pc + 2) (pos + 1) mk lm ls inn lst hd out li fr wt (sn.add 16) := by
    unfold M.exec
    simp only [M.word, Nat.add_zero, h0, show ops[16]? = some Op.LITERAL from rfl, ge_iff_le, if_neg (Nat.not_le_of_lt hp), accepts, itemWidth, h1, ht, beq_self_eq_true]
  rw [e]
  exact At.mk' hf hw hl
theorem At.litNo (A : At C t lim st pc pos mk lm ls inn W m) {c : Nat} (hpc : pc < C.size) (h0 : C.getD pc 0 = 16) (h1 : C.getD (pc + 1) 0 = c) (hp : lim ≤ pos ∨ t.getD pos 0 ≠ c) :
    ∃ sn, m.step = { m with seen := sn, answer := some false } := by
  obtain ⟨lst, hd, out, li, fr, wt, sn, rfl, hf, hw, hl⟩ := A.eq
  rw [A.step_exec hpc]
  unfold M.exec
  simp only [M.word, Nat.add_zero, h0, show ops[16]? = some Op.LITERAL from rfl, ge_iff_le, accepts, itemWidth, h1]
  by_cases q : lim ≤ pos
  · rw [if_pos q]
    exact ⟨_, rfl⟩
  · rw [if_neg q]
    have : t.getD pos 0 ≠ c := hp.resolve_left q
    have e : (t.getD pos 0 == c) = false := by simpa using this
    rw [e]
    exact ⟨_, rfl⟩
theorem At.begins (A : At C t lim st pc 0 mk lm ls inn W m) (hpc : pc < C.size) (h0 : C.getD pc 0 = 6) (h1 : C.getD (pc + 1) 0 = 0) : Ev 1 m (At C t lim st (pc + 2) 0 mk lm ls inn W) := by
  obtain ⟨lst, hd, out, li, fr, wt, sn, rfl, hf, hw, hl⟩ := A.eq
  refine A.one hpc ?_
  have e : (St C t lim st pc 0 mk lm ls inn lst hd out li fr wt sn).exec = St C t lim st (pc + 2) 0 mk lm ls inn lst hd out li fr wt ((sn.add 6).add 43) := by
    unfold M.exec
    simp only [M.word, M.isAt, Nat.add_zero, h0, h1, show ops[6]? = some Op.AT from rfl, beq_self_eq_true, if_true]
  rw [e]
  exact At.mk' hf hw hl
theorem At.ends (A : At C t lim st pc lim mk lm ls inn W m) (hpc : pc < C.size) (h0 : C.getD pc 0 = 6) (h1 : C.getD (pc + 1) 0 = 5) : Ev 1 m (At C t lim st (pc + 2) lim mk lm ls inn W) := by
  obtain ⟨lst, hd, out, li, fr, wt, sn, rfl, hf, hw, hl⟩ := A.eq
  refine A.one hpc ?_
  have e : (St C t lim st pc lim mk lm ls inn lst hd out li fr wt sn).exec = St C t lim st (pc + 2) lim mk lm ls inn lst hd out li fr wt ((sn.add 6).add 48) := by
    unfold M.exec
    simp only [M.word, M.isAt, Nat.add_zero, h0, h1, show ops[6]? = some Op.AT from rfl, beq_self_eq_true, Bool.true_or, if_true]
  rw [e]
  exact At.mk' hf hw hl
theorem At.info (A : At C t lim st pc pos mk lm ls inn W m) {w : Nat} (hpc : pc < C.size) (h0 : C.getD pc 0 = 14) (h1 : C.getD (pc + 1) 0 = w) : Ev 1 m (At C t lim st (pc + 1 + w) pos mk lm ls inn W) := by
  obtain ⟨lst, hd, out, li, fr, wt, sn, rfl, hf, hw, hl⟩ := A.eq
  refine A.one hpc ?_
  have e : (St C t lim st pc pos mk lm ls inn lst hd out li fr wt sn).exec = St C t lim st (pc + 1 + w) pos mk lm ls inn lst hd out li fr wt (sn.add 14) := by
    unfold M.exec
    simp only [M.word, Nat.add_zero, h0, h1, show ops[14]? = some Op.INFO from rfl]
  rw [e]
  exact At.mk' hf hw hl
/-- the marks behind a mark -/
def marked (mk : Array (Option Nat)) (lm : Int) (i pos : Nat) : Array (Option Nat) :=
  (if (i : Int) ≤ lm + 1 then mk else (List.range i).foldl (fun (a : Array (Option Nat)) (j : Nat) => if (j : Int) > lm then a.setIfInBounds j none else a) mk).setIfInBounds i (some pos)
theorem At.mark (A : At C t lim st pc pos mk lm ls inn W m) {i : Nat} (hpc : pc < C.size) (h0 : C.getD pc 0 = 17) (h1 : C.getD (pc + 1) 0 = i) : Ev 1 m (At C t lim st (pc + 2) pos (marked mk lm i pos) (max lm i) ls inn W) := by
  obtain ⟨lst, hd, out, li, fr, wt, sn, rfl, hf, hw, hl⟩ := A.eq
  refine A.one hpc ?_
  have e : ∃ li', (St C t lim st pc pos mk lm ls inn lst hd out li fr wt sn).exec = St C t lim st (pc + 2) pos (marked mk lm i pos) (max lm i) ls inn lst hd out li' fr wt (sn.add 17) := by
    unfold M.exec
    simp only [M.word, Nat.add_zero, h0, h1, show ops[17]? = some Op.MARK from rfl, M.mark]
    exact ⟨_, rfl⟩
  obtain ⟨li', e⟩ := e
  rw [e]
  exact At.mk' hf hw hl
theorem At.success (A : At C t lim st pc pos mk lm ls inn W m) (hpc : pc < C.size) (h0 : C.getD pc 0 = 1) : Ev 1 m (fun m' => Yes st pos mk lm m' ∧ m'.frames.length ≤ W) := by
  obtain ⟨lst, hd, out, li, fr, wt, sn, rfl, hf, hw, hl⟩ := A.eq
  refine A.one hpc ?_
  have e : (St C t lim st pc pos mk lm ls inn lst hd out li fr wt sn).exec = { St C t lim st pc pos mk lm ls inn lst pos out li fr wt (sn.add 1) with answer := some true } := by
    unfold M.exec
    simp only [M.word, Nat.add_zero, h0, show ops[1]? = some Op.SUCCESS from rfl, Bool.false_and, Bool.or_false, Bool.and_false, Bool.false_eq_true, if_false, M.say]
  rw [e]
  exact ⟨⟨rfl, rfl, rfl, rfl, hf, rfl, rfl⟩, hl⟩
theorem At.finish (A : At C t lim st pc pos mk lm ls inn W m) (hpc : pc < C.size) (h0 : C.getD pc 0 = 1) : Ev (1 + (W + 1)) m (Done st pos mk lm) :=
  (A.success hpc h0).bind fun m' ⟨Y, hl⟩ => (Y.home _ m' rfl).le (by omega)
end
end Mine
end
section
set_option maxRecDepth 100000
namespace Mine
open PySem PySem.Sre
section
variable {C t : Array Nat} {lim st pc pos W W' : Nat} {mk : Array (Option Nat)} {lm : Int} {ls : Array Loop} {inn : Option Nat} {m : M}
theorem St.attempt {lst hd : Nat} {out out' : Bool} {li : Int} {fr : List Sre.Frame} {wt : Nat} {sn : Seen} {f : Sre.Frame} {tg fm : Nat} (h : wt + 1 + f.kept.marks.size ≤ 16777216) :
    (St C t lim st pc pos mk lm ls inn lst hd out li fr wt sn).attempt f tg fm out' = St C t lim st tg fm mk lm ls inn lst fm out' li (f :: fr) (wt + 1 + f.kept.marks.size) sn := by
  unfold M.attempt
  rw [if_neg (by show ¬ (wt + 1 + f.kept.marks.size > 16777216); omega)]
theorem keep_size {m : M} {b : Bool} : (m.keep b).marks.size ≤ m.marks.size := by
  unfold M.keep
  cases b
  · exact Nat.zero_le _
  · show (m.marks.extract 0 (m.lastmark + 1).toNat).size ≤ _
    rw [Array.size_extract]; omega
theorem putBack_keep (mk : Array (Option Nat)) (k : Nat) : mk.extract 0 k ++ mk.extract (mk.extract 0 k).size mk.size = mk := by
  apply Array.toList_inj.mp
  rw [Array.toList_append, Array.toList_extract, Array.toList_extract, Array.size_extract]
  simp only [List.extract_eq_drop_take, List.drop_zero, Nat.sub_zero]
  rw [List.take_of_length_le (i := mk.size - min k mk.size) (by rw [List.length_drop, Array.length_toList]; exact Nat.le_refl _)]
  rcases Nat.le_total k mk.size with h | h
  · rw [Nat.min_eq_left h, List.take_append_drop]
  · rw [Nat.min_eq_right h, List.take_of_length_le (by rw [Array.length_toList]; exact h), List.drop_of_length_le (by rw [Array.length_toList]; exact Nat.le_refl _), List.append_nil]
theorem run_count {p : Nat → Bool} {i : Nat} (hacc : ∀ c ∈ t.toList, ∀ sn, ∃ sn', accepts C i c sn = .ok (p c, sn')) : ∀ (k pos found : Nat) (sn : Seen), pos + k = t.size → ∃ sn', Sre.run C t i k pos found sn = .ok (found + ((t.toList.drop pos).takeWhile p).length, sn')
  | 0, pos, found, sn, h => by
    refine ⟨sn, ?_⟩
    rw [List.drop_of_length_le (by rw [Array.length_toList]; omega)]
    rfl
  | k + 1, pos, found, sn, h => by
    have hp : pos < t.size := by omega
    have e : t.toList.drop pos = t.getD pos 0 :: t.toList.drop (pos + 1) := by
      rw [List.drop_eq_getElem_cons (by rw [Array.length_toList]; exact hp)]
      congr 1
      simp [Array.getD, hp]
    have hm : t.getD pos 0 ∈ t.toList := by
      have : t.getD pos 0 ∈ t.toList.drop pos := by rw [e]; exact .head _
      exact List.mem_of_mem_drop this
    obtain ⟨sn1, h1⟩ := hacc _ hm sn
    unfold Sre.run
    rw [h1]
    show ∃ sn', (if p (t.getD pos 0) = true then Sre.run C t i k (pos + 1) (found + 1) sn1 else pure (found, sn1)) = _
    rw [e, List.takeWhile_cons]
    cases hq : p (t.getD pos 0) with
    | true =>
      obtain ⟨sn2, h2⟩ := run_count hacc k (pos + 1) (found + 1) sn1 (by omega)
      refine ⟨sn2, ?_⟩
      rw [if_pos rfl, if_pos rfl, h2, List.length_cons, Nat.add_assoc, Nat.add_comm 1]
    | false => exact ⟨sn1, rfl⟩
/-- what a greedy run does -/
theorem At.run (A : At C t lim st pc pos mk lm ls inn W m) (p : Nat → Bool) {w1 least : Nat} (hpc : pc < C.size) (h0 : C.getD pc 0 = 24) (h1 : C.getD (pc + 1) 0 = w1) (h2 : C.getD (pc + 2) 0 = least) (h3 : C.getD (pc + 3) 0 = 4294967295)
    (hl : pos ≤ lim) (hsz : lim = t.size) (hlim : lim ≤ 4294967295) (hacc : ∀ c ∈ t.toList, ∀ sn, ∃ sn', accepts C (pc + 4) c sn = .ok (p c, sn'))
    (hn : least ≤ ((t.toList.drop pos).takeWhile p).length) (hW : W + 1 + mk.size ≤ W') (hW2 : W' ≤ 16777216) :
    Ev 1 m (At C t lim st (pc + 1 + w1) (pos + ((t.toList.drop pos).takeWhile p).length) mk lm ls inn W') := by
  obtain ⟨lst, hd, out, li, fr, wt, sn, rfl, hf, hw, hfl⟩ := A.eq
  refine A.one hpc ?_
  obtain ⟨sn', hr⟩ := run_count hacc (lim - pos) pos 0 ((sn.add 24).add (C.getD (pc + 4) 0)) (by omega)
  have hle : ((t.toList.drop pos).takeWhile p).length ≤ lim - pos := by
    have := (List.takeWhile_sublist p (l := t.toList.drop pos)).length_le
    rw [List.length_drop, Array.length_toList (xs := t)] at this; omega
  have hroom : ¬ ((least : Int) > (lim : Int) - (pos : Int)) := by omega
  have hmin : min 4294967295 ((lim : Int) - (pos : Int)).toNat = lim - pos := by omega
  have e : ∃ k, (St C t lim st pc pos mk lm ls inn lst hd out li fr wt sn).exec = M.attempt (St C t lim st pc (pos + ((t.toList.drop pos).takeWhile p).length) mk lm ls inn lst hd out li fr wt sn') { wait := .giveBack, pc := pc, pos := pos + ((t.toList.drop pos).takeWhile p).length, outermost := out, count := k, kept := M.keep (St C t lim st pc (pos + ((t.toList.drop pos).takeWhile p).length) mk lm ls inn lst hd out li fr wt sn') inn.isSome } (pc + 1 + w1) (pos + ((t.toList.drop pos).takeWhile p).length) out := by
    refine ⟨((0 + ((t.toList.drop pos).takeWhile p).length : Nat) : Int), ?_⟩
    unfold M.exec
    simp only [M.word, Nat.add_zero, h0, h1, h2, h3, show ops[24]? = some Op.REPEAT_ONE from rfl, if_neg hroom, Bool.false_eq_true, if_false, hmin, hr, if_neg (show ¬ (0 + ((t.toList.drop pos).takeWhile p).length < least) by omega)]
    simp only [M.afterRun, M.frame, M.word, h1, Nat.zero_add]
  obtain ⟨k, e⟩ := e
  rw [e]
  have hk := keep_size (m := St C t lim st pc (pos + ((t.toList.drop pos).takeWhile p).length) mk lm ls inn lst hd out li fr wt sn') (b := inn.isSome)
  rw [St.attempt (by dsimp only at hk ⊢; omega)]
  refine At.mk' ?_ (by dsimp only at hk ⊢; omega) (by rw [List.length_cons]; omega)
  intro f hfm
  rcases List.mem_cons.mp hfm with rfl | h
  · rfl
  · exact hf f h
theorem At.runNo (A : At C t lim st pc pos mk lm ls inn W m) (p : Nat → Bool) {least : Nat} (hpc : pc < C.size) (h0 : C.getD pc 0 = 24) (h2 : C.getD (pc + 2) 0 = least) (h3 : C.getD (pc + 3) 0 = 4294967295)
    (hl : pos ≤ lim) (hsz : lim = t.size) (hlim : lim ≤ 4294967295) (hacc : ∀ c ∈ t.toList, ∀ sn, ∃ sn', accepts C (pc + 4) c sn = .ok (p c, sn'))
    (hn : ((t.toList.drop pos).takeWhile p).length < least) : ∃ sn, m.step = { m with seen := sn, answer := some false } := by
  obtain ⟨lst, hd, out, li, fr, wt, sn, rfl, hf, hw, hfl⟩ := A.eq
  rw [A.step_exec hpc]
  obtain ⟨sn', hr⟩ := run_count hacc (lim - pos) pos 0 ((sn.add 24).add (C.getD (pc + 4) 0)) (by omega)
  unfold M.exec
  simp only [M.word, Nat.add_zero, h0, h2, h3, show ops[24]? = some Op.REPEAT_ONE from rfl, Bool.false_eq_true, if_false, show min 4294967295 ((lim : Int) - (pos : Int)).toNat = lim - pos by omega, hr]
  by_cases q : (least : Int) > (lim : Int) - (pos : Int)
  · rw [if_pos q]; exact ⟨_, rfl⟩
  · rw [if_neg q, if_pos (by omega)]; exact ⟨_, rfl⟩
theorem At.repeat_ (A : At C t lim st pc pos mk lm ls inn W m) {w1 : Nat} (hpc : pc < C.size) (h0 : C.getD pc 0 = 23) (h1 : C.getD (pc + 1) 0 = w1) (hW : W + 1 ≤ W') (hW2 : W' ≤ 16777216) :
    Ev 1 m (At C t lim st (pc + 1 + w1) pos mk lm (ls.push { pc := pc, outer := inn }) (some ls.size) W') := by
  obtain ⟨lst, hd, out, li, fr, wt, sn, rfl, hf, hw, hfl⟩ := A.eq
  refine A.one hpc ?_
  have e : (St C t lim st pc pos mk lm ls inn lst hd out li fr wt sn).exec = M.attempt (St C t lim st pc pos mk lm (ls.push { pc := pc, outer := inn }) (some ls.size) lst hd out li fr wt (sn.add 23)) { wait := .closeLoop, pc := pc, pos := pos, outermost := out, loop := ls.size } (pc + 1 + w1) pos out := by
    unfold M.exec
    simp only [M.word, Nat.add_zero, h0, h1, show ops[23]? = some Op.REPEAT from rfl, M.frame]
  rw [e, St.attempt (by show wt + 1 + 0 ≤ _; omega)]
  refine At.mk' ?_ (by show wt + 1 + 0 ≤ _; omega) (by rw [List.length_cons]; omega)
  intro f hfm
  rcases List.mem_cons.mp hfm with rfl | h
  · rfl
  · exact hf f h
end
end Mine
end
section
set_option maxRecDepth 100000
namespace Mine
open PySem PySem.Sre
section
variable {C t : Array Nat} {lim st pc pos W W' : Nat} {mk : Array (Option Nat)} {lm : Int} {ls : Array Loop} {inn : Option Nat} {m : M}
theorem until_first {i : Nat} {l : Loop} {lst hd : Nat} {out : Bool} {li : Int} {fr : List Sre.Frame} {wt : Nat} {sn : Seen} (h0 : C.getD pc 0 = 18) (hi : ls.getD i { pc := 0, outer := none } = l) (hc : l.count = -1) (hb : l.began = none) (hm2 : C.getD (l.pc + 2) 0 = 0) (hm3 : C.getD (l.pc + 3) 0 = 1) :
    (St C t lim st pc pos mk lm ls (some i) lst hd out li fr wt sn).exec = M.attempt (St C t lim st (pc + 1) pos mk lm (ls.modify i fun l => { l with count := 0, began := some pos }) (some i) lst hd out li fr wt (sn.add 18)) { wait := .maxMore, pc := pc + 1, pos := pos, outermost := out, loop := i, count := 0, kept := M.keep (St C t lim st (pc + 1) pos mk lm ls (some i) lst hd out li fr wt (sn.add 18)) true, began := none } (l.pc + 4) pos out := by
  unfold M.exec
  simp only [M.word, Nat.add_zero, h0, show ops[18]? = some Op.MAX_UNTIL from rfl, M.until_, M.loopAt, hi, hc, hb, hm2, hm3]
  rw [if_neg (by decide)]
  simp only [Bool.not_true, Bool.false_eq_true, if_false]
  rw [if_pos (by simp)]
  simp only [M.round, M.loopAt, hi, hb, M.setLoop, if_true, M.frame]
  rfl
/-- a loop's body is tried -/
theorem At.take (A : At C t lim st pc pos mk lm ls (some i) W m) {l : Loop} (hpc : pc < C.size) (h0 : C.getD pc 0 = 18) (hi : ls.getD i { pc := 0, outer := none } = l) (hc : l.count = -1) (hb : l.began = none) (hm2 : C.getD (l.pc + 2) 0 = 0) (hm3 : C.getD (l.pc + 3) 0 = 1) (hW : W + 1 + mk.size ≤ W') (hW2 : W' ≤ 16777216) :
    Ev 1 m (At C t lim st (l.pc + 4) pos mk lm (ls.modify i fun l => { l with count := 0, began := some pos }) (some i) W') := by
  obtain ⟨lst, hd, out, li, fr, wt, sn, rfl, hf, hw, hfl⟩ := A.eq
  refine A.one hpc ?_
  rw [until_first h0 hi hc hb hm2 hm3]
  have hk := keep_size (m := St C t lim st (pc + 1) pos mk lm ls (some i) lst hd out li fr wt (sn.add 18)) (b := true)
  rw [St.attempt (by dsimp only at hk ⊢; omega)]
  refine At.mk' ?_ (by dsimp only at hk ⊢; omega) (by rw [List.length_cons]; omega)
  intro f hfm
  rcases List.mem_cons.mp hfm with rfl | h
  · rfl
  · exact hf f h
/-- a loop that took its turn goes on -/
theorem At.tail (A : At C t lim st pc pos mk lm ls (some i) W m) {l : Loop} (hpc : pc < C.size) (h0 : C.getD pc 0 = 18) (hi : ls.getD i { pc := 0, outer := none } = l) (hc : l.count = 0) (hm2 : C.getD (l.pc + 2) 0 = 0) (hm3 : C.getD (l.pc + 3) 0 = 1) (hW : W + 1 ≤ W') (hW2 : W' ≤ 16777216) :
    Ev 1 m (At C t lim st (pc + 1) pos mk lm ls l.outer W') := by
  obtain ⟨lst, hd, out, li, fr, wt, sn, rfl, hf, hw, hfl⟩ := A.eq
  refine A.one hpc ?_
  have e : (St C t lim st pc pos mk lm ls (some i) lst hd out li fr wt sn).exec = M.attempt (St C t lim st (pc + 1) pos mk lm ls l.outer lst hd out li fr wt (sn.add 18)) { wait := .maxTail, pc := pc + 1, pos := pos, outermost := out, loop := i, count := 1, kept := M.keep (St C t lim st (pc + 1) pos mk lm ls l.outer lst hd out li fr wt (sn.add 18)) false } (pc + 1) pos out := by
    unfold M.exec
    simp only [M.word, Nat.add_zero, h0, show ops[18]? = some Op.MAX_UNTIL from rfl, M.until_, M.loopAt, hi, hc, hm2, hm3]
    rw [if_neg (by decide)]
    simp only [Bool.not_true, Bool.false_eq_true, if_false]
    rw [if_neg (by simp [maxRepeat])]
    simp only [M.afterLoop, M.loopAt, hi, M.frame]
    rfl
  rw [e, St.attempt (by show wt + 1 + 0 ≤ _; omega)]
  refine At.mk' ?_ (by show wt + 1 + 0 ≤ _; omega) (by rw [List.length_cons]; omega)
  intro f hfm
  rcases List.mem_cons.mp hfm with rfl | h
  · rfl
  · exact hf f h
theorem modify_back {f g h : Loop → Loop} {i : Nat} {l : Loop} (hi : i < ls.size) (hl : ls.getD i { pc := 0, outer := none } = l) (e : h (g (f l)) = l) : ((ls.modify i f).modify i g).modify i h = ls := by
  apply Array.ext
  · simp
  · intro j h1 h2
    simp only [Array.getElem_modify]
    by_cases q : i = j
    · subst q
      simp only [if_true]
      have : ls[i] = l := by rw [← hl]; simp [Array.getD, hi]
      rw [this, e]
    · simp only [if_neg q]
/-- a loop whose body fails at once is passed by -/
theorem At.skip {k : Nat} (A : At C t lim st pc pos mk lm ls (some i) W m) {l : Loop} (hpc : pc < C.size) (h0 : C.getD pc 0 = 18) (hin : i < ls.size) (hi : ls.getD i { pc := 0, outer := none } = l) (hc : l.count = -1) (hb : l.began = none) (hm2 : C.getD (l.pc + 2) 0 = 0) (hm3 : C.getD (l.pc + 3) 0 = 1) (hW : W + 1 + mk.size ≤ W') (hW2 : W' ≤ 16777216)
    (body : ∀ m1, At C t lim st (l.pc + 4) pos mk lm (ls.modify i fun l => { l with count := 0, began := some pos }) (some i) W' m1 → ∃ n, n ≤ k ∧ ∃ sn pc' pos', M.runFor n m1 = { m1 with seen := sn, pc := pc', pos := pos', answer := some false }) :
    Ev (k + 2) m (At C t lim st (pc + 1) pos mk lm ls l.outer W') := by
  obtain ⟨lst, hd, out, li, fr, wt, sn, rfl, hf, hw, hfl⟩ := A.eq
  have hk := keep_size (m := St C t lim st (pc + 1) pos mk lm ls (some i) lst hd out li fr wt (sn.add 18)) (b := true)
  have e1 : (St C t lim st pc pos mk lm ls (some i) lst hd out li fr wt sn).step = _ := (A.step_exec hpc).trans ((until_first h0 hi hc hb hm2 hm3).trans (St.attempt (by dsimp only at hk ⊢; omega)))
  have hfr : ∀ f ∈ (({ wait := .maxMore, pc := pc + 1, pos := pos, outermost := out, loop := i, count := 0, kept := M.keep (St C t lim st (pc + 1) pos mk lm ls (some i) lst hd out li fr wt (sn.add 18)) true, began := none } : Sre.Frame) :: fr), good f.wait = true := by
    intro f hfm
    rcases List.mem_cons.mp hfm with rfl | h
    · rfl
    · exact hf f h
  have one := Ev.one (P := fun x => x = _) A.outcome e1
  refine (one.bind (b := k + 1) fun x hx => ?_).le (by omega)
  subst hx
  obtain ⟨n, hn, sn', pc', pos', hr⟩ := body _ (At.mk' (lst := lst) (hd := pos) (out := out) (li := li) (sn := sn.add 18) (wt := wt + 1 + (M.keep (St C t lim st (pc + 1) pos mk lm ls (some i) lst hd out li fr wt (sn.add 18)) true).marks.size) hfr (by dsimp only at hk ⊢; omega) (by rw [List.length_cons]; omega))
  refine ⟨n + 1, by omega, ?_⟩
  rw [runFor_add, hr]
  rw [runFor_succ, if_neg (by simp), M.runFor]
  have e2 : M.step { St C t lim st (l.pc + 4) pos mk lm (ls.modify i fun l => { l with count := 0, began := some pos }) (some i) lst pos out li (({ wait := .maxMore, pc := pc + 1, pos := pos, outermost := out, loop := i, count := 0, kept := M.keep (St C t lim st (pc + 1) pos mk lm ls (some i) lst hd out li fr wt (sn.add 18)) true, began := none } : Sre.Frame) :: fr) (wt + 1 + (M.keep (St C t lim st (pc + 1) pos mk lm ls (some i) lst hd out li fr wt (sn.add 18)) true).marks.size) (sn.add 18) with seen := sn', pc := pc', pos := pos', answer := some false } =
      M.attempt (St C t lim st (pc + 1) pos mk lm ls l.outer lst pos out li fr wt sn') { wait := .maxTail, pc := pc + 1, pos := pos, outermost := out, loop := i, count := 0, kept := M.keep (St C t lim st (pc + 1) pos mk lm ls l.outer lst pos out li fr wt sn') false } (pc + 1) pos out := by
    unfold M.step
    simp only [Option.isSome_none, Bool.false_eq_true, if_false, M.resume, M.setLoop, M.putBack, M.keep, if_true, M.afterLoop, M.loopAt, M.frame]
    have el : (((ls.modify i fun l => { l with count := 0, began := some pos }).modify i fun l => { l with began := none }).modify i fun l => { l with count := 0 - 1 }) = ls :=
      modify_back hin hi (by cases l; simp only at hc hb; subst hc hb; rfl)
    rw [el, hi, putBack_keep]
    congr 1
    congr 1
    omega
  rw [e2, St.attempt (by show wt + 1 + 0 ≤ _; omega)]
  refine At.mk' ?_ (by show wt + 1 + 0 ≤ _; omega) (by rw [List.length_cons]; omega)
  intro f hfm
  rcases List.mem_cons.mp hfm with rfl | h
  · rfl
  · exact hf f h
end
end Mine
end
section
set_option maxRecDepth 100000
namespace Mine
open PySem PySem.Sre
def isTail (c : Nat) : Bool := isDig c || (65 ≤ c && c ≤ 90) || (97 ≤ c && c ≤ 122) || c == 45 || c == 46
def isKept (c : Nat) : Bool := isTail c || c == 43
theorem dec_digits : ∀ c, c < 128 → Unicode.isDecimal c = isDig c := by decide +kernel
theorem cat_digit {c : Nat} (h : c < 128) : category 10 c = .ok (isDig c) := by
  show Except.ok (Unicode.isDecimal c != (10 % 2 == 1)) = _
  rw [dec_digits c h]
  show Except.ok (isDig c != false) = _
  rw [Bool.bne_false]
theorem accepts_digit {C : Array Nat} {i c : Nat} (h0 : C.getD i 0 = 13) (h2 : C.getD (i + 2) 0 = 8) (h3 : C.getD (i + 3) 0 = 10) (h4 : C.getD (i + 4) 0 = 0) (hs : 2 ≤ C.size) (hc : c < 128) (sn : Seen) : ∃ sn', accepts C i c sn = .ok (isDig c, sn') := by
  obtain ⟨k, hk⟩ : ∃ k, C.size = k + 2 := ⟨C.size - 2, by omega⟩
  unfold accepts
  simp only [h0, show ops[13]? = some Op.IN from rfl, hk]
  unfold inSet
  simp only [Nat.add_zero, h2, show ops[8]? = some Op.CATEGORY from rfl, show i + 2 + 1 = i + 3 from rfl, h3, cat_digit hc]
  cases isDig c
  · show ∃ sn', inSet C c (k + 1) (i + 2 + 2) true _ = _
    unfold inSet
    simp only [Nat.add_zero, show i + 2 + 2 = i + 4 from rfl, h4, show ops[0]? = some Op.FAILURE from rfl]
    exact ⟨_, rfl⟩
  · exact ⟨_, rfl⟩
theorem tail_bits : ∀ c, c < 128 → (if c / 32 = 0 then (0 : Nat) else if c / 32 = 1 then 67067904 else 134217726).testBit (c % 32) = isTail c := by decide +kernel
theorem accepts_tail {C : Array Nat} {i c : Nat} (h0 : C.getD i 0 = 13) (h2 : C.getD (i + 2) 0 = 9) (h3 : C.getD (i + 3) 0 = 0) (h4 : C.getD (i + 4) 0 = 67067904) (h5 : C.getD (i + 5) 0 = 134217726) (h6 : C.getD (i + 6) 0 = 134217726) (h7 : C.getD (i + 11) 0 = 0) (hs : 2 ≤ C.size) (hc : c < 128) (sn : Seen) : ∃ sn', accepts C i c sn = .ok (isTail c, sn') := by
  obtain ⟨k, hk⟩ : ∃ k, C.size = k + 2 := ⟨C.size - 2, by omega⟩
  unfold accepts
  simp only [h0, show ops[13]? = some Op.IN from rfl, hk]
  unfold inSet
  have e : C.getD (i + 2 + (1 + c / 32)) 0 = (if c / 32 = 0 then (0 : Nat) else if c / 32 = 1 then 67067904 else 134217726) := by
    have : c / 32 = 0 ∨ c / 32 = 1 ∨ c / 32 = 2 ∨ c / 32 = 3 := by omega
    rcases this with q | q | q | q <;> rw [q]
    · exact h3
    · exact h4
    · exact h5
    · exact h6
  simp only [Nat.add_zero, h2, show ops[9]? = some Op.CHARSET from rfl, e, tail_bits c hc, show (c < 256) = True from eq_true (by omega), decide_true, Bool.true_and]
  cases isTail c
  · show ∃ sn', inSet C c (k + 1) (i + 2 + 9) true _ = _
    unfold inSet
    simp only [Nat.add_zero, show i + 2 + 9 = i + 11 from rfl, h7, show ops[0]? = some Op.FAILURE from rfl]
    exact ⟨_, rfl⟩
  · exact ⟨_, rfl⟩
theorem at_drop {t : Array Nat} {pos a : Nat} {r : List Nat} (h : t.toList.drop pos = a :: r) : pos < t.size ∧ t.getD pos 0 = a ∧ t.toList.drop (pos + 1) = r := by
  have hp : pos < t.size := by
    rcases Nat.lt_or_ge pos t.size with q | q
    · exact q
    · rw [List.drop_of_length_le (by rw [Array.length_toList]; exact q)] at h; cases h
  have e : t.toList.drop pos = t.getD pos 0 :: t.toList.drop (pos + 1) := by
    rw [List.drop_eq_getElem_cons (by rw [Array.length_toList]; exact hp)]
    congr 1
    simp [Array.getD, hp]
  rw [e] at h
  injection h with h1 h2
  exact ⟨hp, h1, h2⟩
section
variable {C t : Array Nat} {lim st pc pos W W' : Nat} {mk : Array (Option Nat)} {lm : Int} {ls : Array Loop} {inn : Option Nat} {m : M}
/-- what a code's run of figures is -/
structure DigRun (C : Array Nat) (pc : Nat) : Prop where
  lt : pc < C.size
  c0 : C.getD pc 0 = 24
  c1 : C.getD (pc + 1) 0 = 9
  c2 : C.getD (pc + 2) 0 = 1
  c3 : C.getD (pc + 3) 0 = 4294967295
  c4 : C.getD (pc + 4) 0 = 13
  c6 : C.getD (pc + 6) 0 = 8
  c7 : C.getD (pc + 7) 0 = 10
  c8 : C.getD (pc + 8) 0 = 0
  sz : 2 ≤ C.size
theorem At.digits (A : At C t lim st pc pos mk lm ls inn W m) (R : DigRun C pc) (hsz : lim = t.size) (hlim : t.size ≤ 4294967295) (hp : ∀ c ∈ t.toList, c < 128) (hl : pos ≤ t.size) (hn : (t.toList.drop pos).takeWhile isDig ≠ []) (hW : W + 1 + mk.size ≤ W') (hW2 : W' ≤ 16777216) :
    Ev 1 m (At C t lim st (pc + 10) (pos + ((t.toList.drop pos).takeWhile isDig).length) mk lm ls inn W') :=
  A.run isDig R.lt R.c0 R.c1 R.c2 R.c3 (by omega) hsz (by omega) (fun c hc sn => accepts_digit R.c4 R.c6 R.c7 R.c8 R.sz (hp c hc) sn) (List.length_pos_iff.mpr hn) hW hW2
theorem At.noDigits (A : At C t lim st pc pos mk lm ls inn W m) (R : DigRun C pc) (hsz : lim = t.size) (hlim : t.size ≤ 4294967295) (hp : ∀ c ∈ t.toList, c < 128) (hl : pos ≤ t.size) (hn : (t.toList.drop pos).takeWhile isDig = []) :
    ∃ sn, m.step = { m with seen := sn, answer := some false } :=
  A.runNo isDig R.lt R.c0 R.c2 R.c3 (by omega) hsz (by omega) (fun c hc sn => accepts_digit R.c4 R.c6 R.c7 R.c8 R.sz (hp c hc) sn) (by rw [hn]; exact Nat.one_pos)
end
end Mine
end
section
set_option maxRecDepth 100000
namespace Mine
open PySem PySem.Sre
def baseC : Array Nat := #[14, 4, 0, 1, 4294967295, 6, 0, 24, 9, 1, 4294967295, 13, 4, 8, 10, 0, 1, 23, 32, 0, 1, 16, 46, 24, 9, 1, 4294967295, 13, 4, 8, 10, 0, 1, 23, 15, 0, 1, 16, 46, 24, 9, 1, 4294967295, 13, 4, 8, 10, 0, 1, 18, 18, 1]
section
variable {C t : Array Nat} {lim st pc pos W W' : Nat} {mk : Array (Option Nat)} {lm : Int} {ls : Array Loop} {inn : Option Nat} {m : M}
/-- a dot with a figure behind it does not follow -/
def noDot (r : List Nat) : Prop := ∀ c u, r = 46 :: c :: u → isDig c = false
theorem noDot_drop {r : List Nat} (h : noDot (46 :: r)) : r.takeWhile isDig = [] := by
  cases r with
  | nil => rfl
  | cons c u => rw [List.takeWhile_cons, h c u rfl]; rfl
theorem getD_mod_same {f : Loop → Loop} {i : Nat} {d : Loop} (h : i < ls.size) : (ls.modify i f).getD i d = f (ls.getD i d) := by
  simp [Array.getD, h, Array.getElem_modify]
theorem getD_mod_ne {f : Loop → Loop} {i j : Nat} {d : Loop} (h : i ≠ j) : (ls.modify i f).getD j d = ls.getD j d := by
  simp [Array.getD, Array.getElem_modify, h]
theorem getD_push_last {l d : Loop} : (ls.push l).getD ls.size d = l := by simp [Array.getD]
theorem getD_push_lt {l d : Loop} {i : Nat} (h : i < ls.size) : (ls.push l).getD i d = ls.getD i d := by
  simp [Array.getD, h, Nat.lt_succ_of_lt h, Array.getElem_push_lt]
/-- a dot and its figures fail -/
theorem At.dotFails (hsz : lim = t.size) (hlim : t.size ≤ 4294967295) (hp : ∀ c ∈ t.toList, c < 128) (hl : pos ≤ t.size) (hpc : pc < C.size) (h0 : C.getD pc 0 = 16) (h1 : C.getD (pc + 1) 0 = 46) (R : DigRun C (pc + 2)) (hno : noDot (t.toList.drop pos)) :
    ∀ m1, At C t lim st pc pos mk lm ls inn W m1 → ∃ n, n ≤ 2 ∧ ∃ sn pc' pos', M.runFor n m1 = { m1 with seen := sn, pc := pc', pos := pos', answer := some false } := by
  intro m1 A
  by_cases q : pos < t.size ∧ t.getD pos 0 = 46
  · obtain ⟨lst, hd, out, li, fr, wt, sn, rfl, hf, hw, hfl⟩ := A.eq
    have e : (St C t lim st pc pos mk lm ls inn lst hd out li fr wt sn).step = St C t lim st (pc + 2) (pos + 1) mk lm ls inn lst hd out li fr wt (sn.add 16) := by
      rw [A.step_exec hpc]
      unfold M.exec
      simp only [M.word, Nat.add_zero, h0, show ops[16]? = some Op.LITERAL from rfl, ge_iff_le, if_neg (show ¬ lim ≤ pos by omega), accepts, itemWidth, h1, q.2, beq_self_eq_true]
    have A2 : At C t lim st (pc + 2) (pos + 1) mk lm ls inn W (St C t lim st (pc + 2) (pos + 1) mk lm ls inn lst hd out li fr wt (sn.add 16)) := At.mk' hf hw hfl
    have ed : t.toList.drop pos = 46 :: t.toList.drop (pos + 1) := by
      rw [List.drop_eq_getElem_cons (by rw [Array.length_toList]; exact q.1)]
      congr 1
      have := q.2
      simp [Array.getD, q.1] at this
      simpa using this
    obtain ⟨sn2, e2⟩ := A2.noDigits R hsz hlim hp (by omega) (noDot_drop (ed ▸ hno))
    refine ⟨2, Nat.le_refl _, sn2, pc + 2, pos + 1, ?_⟩
    rw [runFor_succ, if_neg (by simp), e, runFor_succ, if_neg (by simp), e2]
    rfl
  · obtain ⟨sn, e⟩ := A.litNo (c := 46) hpc h0 h1 (by omega)
    refine ⟨1, by omega, sn, m1.pc, m1.pos, ?_⟩
    rw [runFor_succ, if_neg (by rw [A.outcome]; simp), e]
    rfl
end
theorem drop_run (X : List Nat) (a : Nat) : X.drop (a + ((X.drop a).takeWhile isDig).length) = (X.drop a).dropWhile isDig := drop_rest X a
theorem base_eq {t : Array Nat} (h : 1 ≤ t.size) : forMatch baseC t 0 0 t.size false false = St baseC t t.size 0 5 0 #[] (-1) #[] none 0 0 true (-1) [] 0 (({} : Seen).add 14) := by
  unfold forMatch
  rw [if_neg]
  · rfl
  · show ¬ (((1 : Nat) != 0 && decide (0 ≤ t.size) && decide (t.size - 0 < 1)) = true)
    have : decide (t.size - 0 < 1) = false := decide_eq_false (by omega)
    rw [this, Bool.and_false]; decide
theorem base_start {t : Array Nat} (h : 1 ≤ t.size) : At baseC t t.size 0 5 0 #[] (-1) #[] none 0 (forMatch baseC t 0 0 t.size false false) := by
  rw [base_eq h]
  exact At.mk' (fun f hf => nomatch hf) (Nat.le_refl _) (Nat.le_refl _)
theorem base_run {t : Array Nat} (hp : ∀ c ∈ t.toList, c < 128) (hlim : t.size ≤ 4294967295) (hs : t.toList.takeWhile isDig ≠ []) :
    ∃ e, e ≤ t.size ∧ t.toList.drop e = (openL 3 t.toList).2 ∧ Ev 200 (forMatch baseC t 0 0 t.size false false) (Done 0 e #[] (-1)) := by
  have h1 : 1 ≤ t.size := by
    cases e : t.toList with
    | nil => rw [e] at hs; exact absurd rfl hs
    | cons a r => rw [← Array.length_toList, e]; exact Nat.succ_le_succ (Nat.zero_le _)
  have R7 : DigRun baseC 7 := ⟨by decide, rfl, rfl, rfl, rfl, rfl, rfl, rfl, rfl, by decide⟩
  have R23 : DigRun baseC 23 := ⟨by decide, rfl, rfl, rfl, rfl, rfl, rfl, rfl, rfl, by decide⟩
  have R39 : DigRun baseC 39 := ⟨by decide, rfl, rfl, rfl, rfl, rfl, rfl, rfl, rfl, by decide⟩
  have L0 := len_drop_le t.toList 0 (Nat.zero_le _)
  have D0 := drop_run t.toList 0
  rw [Array.length_toList (xs := t)] at L0
  rw [List.drop_zero] at L0 D0
  generalize hn0 : 0 + (t.toList.takeWhile isDig).length = n0 at L0 D0
  have P0 : Ev 3 (forMatch baseC t 0 0 t.size false false) (At baseC t t.size 0 50 n0 #[] (-1) #[{ pc := 17, outer := none }] (some 0) 2) :=
    ((base_start h1).begins (by decide) rfl rfl).bind (b := 2) fun m1 A1 => (A1.digits (W' := 1) R7 rfl hlim hp (Nat.zero_le _) hs (by decide) (by decide)).bind (b := 1) fun m2 A2 => by
      rw [List.drop_zero, hn0] at A2
      exact (A2.repeat_ (W' := 2) (w1 := 32) (by decide) rfl rfl (by decide) (by decide)).mono fun m3 A3 => A3
  by_cases q0 : noDot (t.toList.drop n0)
  · refine ⟨n0, L0, ?_, ?_⟩
    · rw [openL_stop (by decide) hs (fun c u h => q0 c u (D0.trans h)), D0]
    · refine ((P0.bind (b := 4 + (1 + 4)) fun m A => (A.skip (k := 2) (l := { pc := 17, outer := none }) (W' := 3) (by decide) rfl (by decide) rfl rfl rfl rfl rfl (by decide) (by decide) ?_).bind (b := 1 + 4) fun m4 A4 => A4.finish (by decide) rfl)).le (by decide)
      exact At.dotFails rfl hlim hp L0 (by decide) rfl rfl R23 q0
  · obtain ⟨c, u, hr, hc⟩ : ∃ c u, t.toList.drop n0 = 46 :: c :: u ∧ isDig c = true := by
      unfold noDot at q0
      simp only [Classical.not_forall] at q0
      obtain ⟨c, u, h, hc⟩ := q0
      exact ⟨c, u, h, by simpa using hc⟩
    obtain ⟨b1, b2, b3⟩ := at_drop hr
    have hs1 : (t.toList.drop (n0 + 1)).takeWhile isDig ≠ [] := by rw [b3, List.takeWhile_cons, hc]; simp
    have L1 := len_drop_le t.toList (n0 + 1) (by rw [Array.length_toList]; omega)
    have D1 := drop_run t.toList (n0 + 1)
    rw [Array.length_toList (xs := t)] at L1
    generalize hn1 : n0 + 1 + ((t.toList.drop (n0 + 1)).takeWhile isDig).length = n1 at L1 D1
    have P1 : Ev 7 (forMatch baseC t 0 0 t.size false false) (At baseC t t.size 0 49 n1 #[] (-1) ((#[{ pc := 17, outer := none }].modify 0 fun l => { l with count := 0, began := some n0 }).push { pc := 33, outer := some 0 }) (some 1) 5) :=
      P0.bind (b := 4) fun m3 A3 => (A3.take (l := { pc := 17, outer := none }) (W' := 3) (by decide) rfl rfl rfl rfl rfl rfl (by decide) (by decide)).bind (b := 3) fun m4 A4 =>
        (A4.lit (c := 46) (by decide) rfl rfl b1 b2).bind (b := 2) fun m5 A5 => (A5.digits (W' := 4) R23 rfl hlim hp (by omega) hs1 (by decide) (by decide)).bind (b := 1) fun m6 A6 => by
          rw [hn1] at A6
          exact (A6.repeat_ (W' := 5) (w1 := 15) (by decide) rfl rfl (by decide) (by decide)).mono fun m7 A7 => by
            have e : (#[({ pc := 17, outer := none } : Loop)].modify 0 fun l => { l with count := 0, began := some n0 }).size = 1 := by rw [Array.size_modify]; rfl
            rw [e] at A7
            exact A7
    have o1 : openL 3 t.toList = (t.toList.takeWhile isDig :: (openL 2 (c :: u)).1, (openL 2 (c :: u)).2) := openL_go (by decide) hs (by rw [← D0]; exact hr) hc
    have hs1' : (c :: u).takeWhile isDig ≠ [] := by rw [← b3]; exact hs1
    have e1 : ((#[({ pc := 17, outer := none } : Loop)].modify 0 fun l => { l with count := 0, began := some n0 }).push { pc := 33, outer := some 0 }).getD 1 { pc := 0, outer := none } = { pc := 33, outer := some 0 } := by
      have e : (#[({ pc := 17, outer := none } : Loop)].modify 0 fun l => { l with count := 0, began := some n0 }).size = 1 := by rw [Array.size_modify]; rfl
      have := getD_push_last (ls := #[({ pc := 17, outer := none } : Loop)].modify 0 fun l => { l with count := 0, began := some n0 }) (l := { pc := 33, outer := some 0 }) (d := { pc := 0, outer := none })
      rw [e] at this; exact this
    have e0 : ((#[({ pc := 17, outer := none } : Loop)].modify 0 fun l => { l with count := 0, began := some n0 }).push { pc := 33, outer := some 0 }).getD 0 { pc := 0, outer := none } = { pc := 17, count := 0, began := some n0, outer := none } := by
      rw [getD_push_lt (by rw [Array.size_modify]; decide), getD_mod_same (by decide)]; rfl
    have hsz2 : ((#[({ pc := 17, outer := none } : Loop)].modify 0 fun l => { l with count := 0, began := some n0 }).push { pc := 33, outer := some 0 }).size = 2 := by rw [Array.size_push, Array.size_modify]; rfl
    by_cases q1 : noDot (t.toList.drop n1)
    · refine ⟨n1, L1, ?_, ?_⟩
      · rw [o1, openL_stop (by decide) hs1' (fun d v h => q1 d v (by rw [D1, b3]; exact h)), D1, b3]
      · refine ((P1.bind (b := 4 + (1 + (1 + 8))) fun m A => (A.skip (k := 2) (l := { pc := 33, outer := some 0 }) (W' := 6) (by decide) rfl (by rw [hsz2]; decide) e1 rfl rfl rfl rfl (by decide) (by decide) ?_).bind (b := 1 + (1 + 8)) fun m4 A4 =>
          (A4.tail (W' := 7) (by decide) rfl e0 rfl rfl rfl (by decide) (by decide)).bind (b := 1 + 8) fun m5 A5 => A5.finish (by decide) rfl)).le (by decide)
        exact At.dotFails rfl hlim hp L1 (by decide) rfl rfl R39 q1
    · obtain ⟨d, v, hr2, hd⟩ : ∃ c u, t.toList.drop n1 = 46 :: c :: u ∧ isDig c = true := by
        unfold noDot at q1
        simp only [Classical.not_forall] at q1
        obtain ⟨c, u, h, hc⟩ := q1
        exact ⟨c, u, h, by simpa using hc⟩
      obtain ⟨b4, b5, b6⟩ := at_drop hr2
      have hs2 : (t.toList.drop (n1 + 1)).takeWhile isDig ≠ [] := by rw [b6, List.takeWhile_cons, hd]; simp
      have L2 := len_drop_le t.toList (n1 + 1) (by rw [Array.length_toList]; omega)
      have D2 := drop_run t.toList (n1 + 1)
      rw [Array.length_toList (xs := t)] at L2
      have o2 : openL 2 (c :: u) = ((c :: u).takeWhile isDig :: (openL 1 (d :: v)).1, (openL 1 (d :: v)).2) := openL_go (by decide) hs1' (by rw [← b3, ← D1]; exact hr2) hd
      refine ⟨_, L2, ?_, ?_⟩
      · rw [o1, o2, openL_last (by rw [← b6]; exact hs2), D2, b6]
      · refine ((P1.bind (b := 1 + (1 + (1 + (1 + (1 + (1 + 10)))))) fun m A => (A.take (l := { pc := 33, outer := some 0 }) (W' := 6) (by decide) rfl e1 rfl rfl rfl rfl (by decide) (by decide)).bind (b := 1 + (1 + (1 + (1 + (1 + 10))))) fun m4 A4 =>
          (A4.lit (c := 46) (by decide) rfl rfl b4 b5).bind (b := 1 + (1 + (1 + (1 + 10)))) fun m5 A5 => (A5.digits (W' := 7) R39 rfl hlim hp (by omega) hs2 (by decide) (by decide)).bind (b := 1 + (1 + (1 + 10))) fun m6 A6 =>
            (A6.tail (W' := 8) (l := { pc := 33, count := 0, began := some n1, outer := some 0 }) (by decide) rfl (by rw [getD_mod_same (by rw [hsz2]; decide), e1]) rfl rfl rfl (by decide) (by decide)).bind (b := 1 + (1 + 10)) fun m7 A7 =>
              (A7.tail (W' := 9) (l := { pc := 17, count := 0, began := some n0, outer := none }) (by decide) rfl (by rw [getD_mod_ne (by decide), e0]) rfl rfl rfl (by decide) (by decide)).bind (b := 1 + 10) fun m8 A8 => A8.finish (by decide) rfl)).le (by decide)
theorem base_none {t : Array Nat} (hp : ∀ c ∈ t.toList, c < 128) (hlim : t.size ≤ 4294967295) (hs : t.toList.takeWhile isDig = []) :
    ∃ n, n ≤ 4 ∧ (M.runFor n (forMatch baseC t 0 0 t.size false false)).outcome = some .failed := by
  by_cases h1 : 1 ≤ t.size
  · have R7 : DigRun baseC 7 := ⟨by decide, rfl, rfl, rfl, rfl, rfl, rfl, rfl, rfl, by decide⟩
    refine ⟨3, by decide, ?_⟩
    have A0 : At baseC t t.size 0 5 0 #[] (-1) #[] none 0 (St baseC t t.size 0 5 0 #[] (-1) #[] none 0 0 true (-1) [] 0 (({} : Seen).add 14)) := At.mk' (fun f hf => nomatch hf) (Nat.le_refl _) (Nat.le_refl _)
    have e : (St baseC t t.size 0 5 0 #[] (-1) #[] none 0 0 true (-1) [] 0 (({} : Seen).add 14)).step = St baseC t t.size 0 7 0 #[] (-1) #[] none 0 0 true (-1) [] 0 (((({} : Seen).add 14).add 6).add 43) := by
      rw [A0.step_exec (by decide)]; rfl
    have A1 : At baseC t t.size 0 7 0 #[] (-1) #[] none 0 (St baseC t t.size 0 7 0 #[] (-1) #[] none 0 0 true (-1) [] 0 (((({} : Seen).add 14).add 6).add 43)) := At.mk' (fun f hf => nomatch hf) (Nat.le_refl _) (Nat.le_refl _)
    obtain ⟨sn, e2⟩ := A1.noDigits R7 rfl hlim hp (Nat.zero_le _) hs
    rw [base_eq h1, runFor_succ, if_neg (by simp), e, runFor_succ, if_neg (by simp), e2, runFor_succ, if_neg (by simp)]
    rfl
  · refine ⟨1, by decide, ?_⟩
    have e0 : t.size = 0 := by omega
    have : forMatch baseC t 0 0 t.size false false = { St baseC t t.size 0 5 0 #[] (-1) #[] none 0 0 true (-1) [] 0 (({} : Seen).add 14) with answer := some false } := by
      unfold forMatch
      rw [if_pos]
      · rfl
      · show (((1 : Nat) != 0 && decide (0 ≤ t.size) && decide (t.size - 0 < 1)) = true)
        rw [e0]; decide
    rw [this, runFor_succ, if_neg (by simp)]
    rfl
end Mine
end
section
set_option maxRecDepth 100000
namespace Mine
open PySem PySem.Sre PySem.Builtin.Re
section
variable {Mo : Model} {A : Around} {E : Value → Shared → Prop} {s : Shared}
theorem wpAny_reDrive {Q : Sre.M → Shared → Prop} : ∀ {T n : Nat} {m : Sre.M}, n < 4 * T → (M.runFor n m).outcome.isSome = true → Q (M.runFor n m) s → wpAny Mo A (reDrive T m) Q E s
  | 0, n, m, hn, _, _ => absurd hn (by omega)
  | T + 1, n, m, hn, ho, hq => by
    unfold reDrive
    by_cases q : (M.runFor reTurnSteps m).outcome.isSome = true
    · have e : M.runFor reTurnSteps m = M.runFor n m := by
        rcases Nat.le_total n 4 with h | h
        · obtain ⟨k, hk⟩ := Nat.le.dest h
          rw [show reTurnSteps = n + k from hk.symm, runFor_add, runFor_stay k ho]
        · obtain ⟨k, hk⟩ := Nat.le.dest h
          rw [← hk, show M.runFor (4 + k) m = M.runFor k (M.runFor 4 m) from runFor_add 4 k m]
          exact (runFor_stay k q).symm
      simp only [q, if_true]
      rw [e]
      exact wpAny_pure hq
    · have h4 : 4 < n := by
        rcases Nat.lt_or_ge 4 n with h | h
        · exact h
        · obtain ⟨k, hk⟩ := Nat.le.dest h
          exact absurd (by rw [show reTurnSteps = n + k from hk.symm, runFor_add, runFor_stay k ho]; exact ho) q
      obtain ⟨k, hk⟩ := Nat.le.dest (Nat.le_of_lt h4)
      have e : M.runFor n m = M.runFor k (M.runFor reTurnSteps m) := by rw [← hk, runFor_add]; rfl
      simp only [if_neg q]
      refine wpAny_bind (wpAny_rule ?_)
      exact wpAny_reDrive (n := k) (by omega) (e ▸ ho) (e ▸ hq)
theorem wpAny_reRunToEnd {Q : Option Sre.M → Shared → Prop} {n : Nat} {m : Sre.M} {r : Option Sre.M} (hn : n ≤ 1000000) (ho : (M.runFor n m).outcome = some .matched ∧ r = some (M.runFor n m) ∨ (M.runFor n m).outcome = some .failed ∧ r = none) (hq : Q r s) :
    wpAny Mo A (reRunToEnd m) Q E s := by
  unfold reRunToEnd
  refine wpAny_bind (wpAny_reDrive (n := n) (by omega) (by rcases ho with ⟨h, _⟩ | ⟨h, _⟩ <;> rw [h] <;> rfl) ?_)
  generalize M.runFor n m = mf at ho
  refine wpAny_bind (wpAny_forIn_list _ (fun _ _ s' => s' = s) _ ?_ (fun b s' e => ?_) _ _ rfl)
  · rintro i rest b s' rfl
    by_cases q : mf.seen.has i = true
    · rw [if_pos q]
      refine wpAny_bind (wpAny_rule ?_)
      exact wpAny_pure rfl
    · rw [if_neg q]
      first | exact wpAny_pure rfl | (refine wpAny_bind ?_; exact wpAny_pure (wpAny_pure rfl))
  · subst e
    rcases ho with ⟨h, rfl⟩ | ⟨h, rfl⟩
    · rw [h]; exact wpAny_pure hq
    · rw [h]; exact wpAny_pure hq
end
end Mine
end
section
set_option maxRecDepth 100000
namespace Mine
open PySem PySem.Sre PySem.Builtin.Re
theorem named_match (id : String) (v : Value) : reNamed id "match" ["string", "pos", "endpos"] 1 [v] [] = pure [some v, none, none] := by kernel_rfl
theorem textOf_str (x : Str) (t : Tok) : reTextOf (.str x t) = pure (x.cps, 0) := rfl
section
variable {prog : Program} {w : World} {A : Around} {E : Value → Shared → Prop} {s : Shared}
/-- a pattern that lies in a heap -/
structure Pat (h : Heap) (p : Addr) (C : Array Nat) (g : Nat) : Prop where
  pat : ∃ o fs ca oc items k, h.get? p = some o ∧ o.cls = .type "re.Pattern" ∧ o.data = .fields fs ∧ reRawNat (fs.getD 6 .none) = 0 ∧ fs.getD 5 .none = .ref ca ∧ reRawNat (fs.getD 2 .none) = g ∧ h.get? ca = some oc ∧ oc.data = .seq items k ∧ (items.map reRawOf).map (·.toNat) = C
theorem wpAny_rawItems {a : Addr} {o : Obj} {items n} {Q : Array Int → Shared → Prop} (ho : s.heap.get? a = some o) (hd : o.data = .seq items n)
    (h : Q (items.map reRawOf) s) : wpAny (model prog w) A (reRawItems (.ref a)) Q E s := by
  unfold reRawItems
  exact wpAny_bind (wpAny_seqItems ho hd (wpAny_pure h))
theorem call_match {p : Addr} {C : Array Nat} {g : Nat} {x : Str} {t : Tok} {Q : Value → Shared → Prop} (P : Pat s.heap p C g) (hx : x.length ≤ 1000)
    (h : wpAny (model prog w) A.in1 (reAnswer { pattern := .ref p, string := .str x t, code := C, text := x.cps, kind := 0, groups := g, pos := 0, lim := x.cps.size } (forMatch C x.cps g 0 x.cps.size false false)) (fun fin s' => ∃ v, fin = .done (.ret v) ∧ Q v s') E s) :
    wpAny (model prog w) A (call (.builtin "re.Pattern.match") [.ref p, .str x t]) Q E s := by
  obtain ⟨o, fs, ca, oc, items, k, ho, hcls, hd, h6, h5, hg, hoc, hdc, hC⟩ := P.pat
  refine wpAny_call_entry slot_re_match ⟨o, ho, hcls⟩ entry_re_match ?_ (args_re_match _ _)
  unfold Builtin.«re.Pattern.match»
  refine wpAny_bind ?_
  unfold reTarget
  dsimp only
  rw [named_match]
  refine wpAny_bind (wpAny_pure ?_)
  dsimp only
  refine wpAny_bind (wpAny_pure ?_)
  refine wpAny_bind (wpAny_pure ?_)
  refine wpAny_bind (wpAny_fieldsOf ho hd ?_)
  rw [textOf_str]
  refine wpAny_bind (wpAny_pure ?_)
  dsimp only
  rw [h6, h5, hg]
  refine wpAny_bind (wpAny_pure ?_)
  refine wpAny_bind (wpAny_rawItems hoc hdc ?_)
  refine wpAny_pure ?_
  dsimp only
  rw [hC]
  have e : min (2 ^ 63 - 1 : Int).toNat x.cps.size = x.cps.size := by
    have : x.cps.size ≤ 1000 := hx
    omega
  have e0 : min (0 : Int).toNat x.cps.size = 0 := by simp
  rw [e, e0]
  exact h
/-- the numbers that a match bears -/
def spansOf (st e : Nat) (marks : Array (Option Nat)) (lm : Int) (g : Nat) : List Value :=
  rawInt st :: rawInt e :: (List.range g).flatMap fun g => match if ((2 * g + 1 : Nat) : Int) ≤ lm then (marks.getD (2 * g) none, marks.getD (2 * g + 1) none) else (none, none) with
    | (some b, some e) => [rawInt b, rawInt e]
    | _ => [rawInt (-1), rawInt (-1)]
def spansBad (marks : Array (Option Nat)) (lm : Int) (g : Nat) : Bool :=
  (List.range g).any fun g => match marks.getD (2 * g) none, marks.getD (2 * g + 1) none with | some b, some e => decide (((2 * g + 1 : Nat) : Int) ≤ lm) && decide (e < b) | _, _ => false
def matchObj (x : Str) (t : Tok) (p T : Addr) (li : Int) : Obj := { cls := .type "re.Match", data := .fields #[.str x t, .ref p, rawInt 0, rawInt x.cps.size, rawInt li, .ref T] }
def spanTup (sp : List Value) : Obj := { cls := .type "tuple", data := .seq sp.toArray }
theorem spans_len (st e : Nat) (marks : Array (Option Nat)) (lm : Int) (g : Nat) : (spansOf st e marks lm g).length = 2 + 2 * g := by
  unfold spansOf
  rw [List.length_cons, List.length_cons, List.length_flatMap]
  have : ∀ l : List Nat, (l.map fun g => (match if ((2 * g + 1 : Nat) : Int) ≤ lm then (marks.getD (2 * g) none, marks.getD (2 * g + 1) none) else (none, none) with
    | (some b, some e) => [rawInt b, rawInt e]
    | _ => [rawInt (-1), rawInt (-1)]).length).sum = 2 * l.length := by
    intro l
    induction l with
    | nil => rfl
    | cons a r ih =>
      rw [List.map_cons, List.sum_cons, ih, List.length_cons]
      split <;> (simp only [List.length_cons, List.length_nil]; omega)
  rw [this, List.length_range]; omega
theorem call_match_yes {p : Addr} {C : Array Nat} {g : Nat} {x : Str} {t : Tok} {Q : Value → Shared → Prop} {k st e : Nat} {marks : Array (Option Nat)} {lm : Int} (P : Pat s.heap p C g) (hx : x.length ≤ 1000) (hg : g ≤ 10)
    (R : Ev k (forMatch C x.cps g 0 x.cps.size false false) (Done st e marks lm)) (hk : k ≤ 1000000) (hb : spansBad marks lm g = false)
    (h : ∀ li, Q (.ref (s.heap.objs.size + 1)) { s with heap := (s.heap.push (spanTup (spansOf st e marks lm g))).push (matchObj x t p s.heap.objs.size li) }) :
    wpAny (model prog w) A (call (.builtin "re.Pattern.match") [.ref p, .str x t]) Q E s := by
  refine call_match P hx ?_
  unfold reAnswer
  obtain ⟨n, hn, D⟩ := R
  refine wpAny_bind (wpAny_reRunToEnd (n := n) (by omega) (.inl ⟨D.outcome, rfl⟩) ?_)
  generalize M.runFor n _ = mf at D
  dsimp only
  refine wpAny_bind ?_
  unfold reNewMatch
  rw [D.start, D.handed, D.marks, D.last]
  dsimp only
  split
  · rename_i h1
    exact absurd (show spansBad marks lm g = true from h1) (by rw [hb]; decide)
  · refine wpAny_bind (wpAny_newTuple ?_ ?_)
    · refine wpAny_newObj_type ?_ (by size_fits)
      refine wpAny_pure ⟨_, rfl, ?_⟩
      dsimp only
      rw [Heap.size_push]
      exact h _
    · refine Nat.le_trans (Nat.le_of_eq (spans_len st e marks lm g)) ?_
      exact Nat.le_trans (Nat.add_le_add_left (Nat.mul_le_mul_left 2 hg) 2) (by decide)
theorem call_match_no {p : Addr} {C : Array Nat} {g : Nat} {x : Str} {t : Tok} {Q : Value → Shared → Prop} {n : Nat} (P : Pat s.heap p C g) (hx : x.length ≤ 1000)
    (hn : n ≤ 1000000) (R : (M.runFor n (forMatch C x.cps g 0 x.cps.size false false)).outcome = some .failed) (h : Q .none s) :
    wpAny (model prog w) A (call (.builtin "re.Pattern.match") [.ref p, .str x t]) Q E s := by
  refine call_match P hx ?_
  unfold reAnswer
  refine wpAny_bind (wpAny_reRunToEnd (n := n) hn (.inr ⟨R, rfl⟩) ?_)
  exact wpAny_pure ⟨_, rfl, h⟩
end
end Mine
end
section
set_option maxRecDepth 100000
namespace Mine
open PySem PySem.Sre PySem.Builtin.Re
theorem slot_re_end : Slot "re.Match" "end" "re.Match.end" :=
  .of (owner := "re.Match") (n := "end") (by rw [typeLookup_type, builtinLookup_eq_fast]; kernel_rfl) (by decide +kernel) (by decide +kernel) (by decide +kernel)
    (by first | exact .inl (by decide +kernel) | exact .inr (by decide +kernel)) (by rw [isSubtype_type]; kernel_rfl)
theorem type_re_end : typeOf (.builtin "re.Match.end") = pure (.type "method_descriptor") := by show builtinType _ = _; rw [builtinType_eq_fast]; kernel_rfl
theorem entry_re_end : entryFor table "re.Match.end" = some Builtin.«re.Match.end» := entryFor_of_tree (by kernel_rfl)
theorem args_re_end (a : Value) : argsOk "re.Match.end" ⟨[a], []⟩ := by unfold argsOk; kernel_rfl
theorem slot_re_groups : Slot "re.Match" "groups" "re.Match.groups" :=
  .of (owner := "re.Match") (n := "groups") (by rw [typeLookup_type, builtinLookup_eq_fast]; kernel_rfl) (by decide +kernel) (by decide +kernel) (by decide +kernel)
    (by first | exact .inl (by decide +kernel) | exact .inr (by decide +kernel)) (by rw [isSubtype_type]; kernel_rfl)
theorem type_re_groups : typeOf (.builtin "re.Match.groups") = pure (.type "method_descriptor") := by show builtinType _ = _; rw [builtinType_eq_fast]; kernel_rfl
theorem entry_re_groups : entryFor table "re.Match.groups" = some Builtin.«re.Match.groups» := entryFor_of_tree (by kernel_rfl)
theorem args_re_groups (a : Value) : argsOk "re.Match.groups" ⟨[a], []⟩ := by unfold argsOk; kernel_rfl
theorem plainAttrs_reMatch : PlainAttrs "re.Match" :=
  ⟨⟨"object.__getattribute__", by rw [typeLookup_type, builtinLookup_eq_fast]; kernel_rfl, by decide +kernel⟩, by rw [typeLookup_type, builtinLookup_eq_fast]; kernel_rfl⟩
theorem noBool_reMatch : typeLookup (.type "re.Match") (Str.ofString "__bool__") = pure none := by rw [typeLookup_type, builtinLookup_eq_fast]; kernel_rfl
theorem noLen_reMatch : typeLookup (.type "re.Match") (Str.ofString "__len__") = pure none := by rw [typeLookup_type, builtinLookup_eq_fast]; kernel_rfl
theorem named_groups (id f : String) : reNamed id f ["default"] 0 [] [] = pure [none] := by kernel_rfl
theorem textOf_str' (x : Str) (t : Tok) : reTextOf (.str x t) = pure (x.cps, 0) := rfl
section
variable {prog : Program} {w : World} {A : Around} {E : Value → Shared → Prop} {s : Shared}
/-- a match that lies in a heap -/
structure Mat (h : Heap) (D : Addr) (x : Str) (t : Tok) (sp : List Value) : Prop where
  mat : ∃ p T li, h.get? D = some (matchObj x t p T li) ∧ h.get? T = some (spanTup sp)
theorem Mat.typ {D : Addr} {x : Str} {t : Tok} {sp : List Value} (X : Mat s.heap D x t sp) : s.TypeIs (.ref D) "re.Match" := by
  obtain ⟨p, T, li, h, _⟩ := X.mat
  exact ⟨_, h, rfl⟩
theorem getMethod_pat {p : Addr} {C : Array Nat} {g : Nat} {pl : Sem Bool} {Q : Value × List Value → Shared → Prop} (P : Pat s.heap p C g) (hdict : ∀ o, s.heap.get? p = some o → o.dict = none) (h : Q (.builtin "re.Pattern.match", [.ref p]) s) : wpAny (model prog w) A (getMethod (.ref p) (Str.ofString "match") pl) Q E s := by
  obtain ⟨o, fs, ca, oc, items, k, ho, hcls, _⟩ := P.pat
  exact getMethod_builtin ⟨o, ho, hcls⟩ plainAttrs_rePattern slot_re_match type_re_match (fun a e => by cases e; exact ⟨_, ho, hdict o ho⟩) h
theorem getMethod_end {D : Addr} {x : Str} {t : Tok} {sp : List Value} {pl : Sem Bool} {Q : Value × List Value → Shared → Prop} (X : Mat s.heap D x t sp) (h : Q (.builtin "re.Match.end", [.ref D]) s) : wpAny (model prog w) A (getMethod (.ref D) (Str.ofString "end") pl) Q E s := by
  obtain ⟨p, T, li, ho, _⟩ := X.mat
  exact getMethod_builtin X.typ plainAttrs_reMatch slot_re_end type_re_end (fun a e => by cases e; exact ⟨_, ho, rfl⟩) h
theorem getMethod_groups {D : Addr} {x : Str} {t : Tok} {sp : List Value} {pl : Sem Bool} {Q : Value × List Value → Shared → Prop} (X : Mat s.heap D x t sp) (h : Q (.builtin "re.Match.groups", [.ref D]) s) : wpAny (model prog w) A (getMethod (.ref D) (Str.ofString "groups") pl) Q E s := by
  obtain ⟨p, T, li, ho, _⟩ := X.mat
  exact getMethod_builtin X.typ plainAttrs_reMatch slot_re_groups type_re_groups (fun a e => by cases e; exact ⟨_, ho, rfl⟩) h
theorem truthy_match {D : Addr} {x : Str} {t : Tok} {sp : List Value} {Q : Bool → Shared → Prop} (X : Mat s.heap D x t sp) (h : Q true s) : wpAny (model prog w) A (truthy (.ref D)) Q E s := by
  unfold truthy
  first
    | refine wpAny_bind (wpAny_callSpecial?_none (name := Str.ofString "__bool__") X.typ noBool_reMatch ?_)
    | refine wpAny_bind (wpAny_pure (wpAny_bind (wpAny_callSpecial?_none (name := Str.ofString "__bool__") X.typ noBool_reMatch ?_)))
  first
    | refine wpAny_bind (wpAny_specialOf (name := Str.ofString "__len__") X.typ noLen_reMatch ?_)
    | refine wpAny_bind (wpAny_pure (wpAny_bind (wpAny_specialOf (name := Str.ofString "__len__") X.typ noLen_reMatch ?_)))
  exact wpAny_pure h
theorem wpAny_reFound {D : Addr} {x : Str} {t : Tok} {sp : List Value} {Q : ReFound → Shared → Prop} (X : Mat s.heap D x t sp)
    (h : ∀ p T li, Q { fields := #[.str x t, .ref p, rawInt 0, rawInt x.cps.size, rawInt li, .ref T], spans := sp.toArray.map reRawOf } s) : wpAny (model prog w) A (reFound (.ref D)) Q E s := by
  obtain ⟨p, T, li, ho, hT⟩ := X.mat
  unfold reFound
  refine wpAny_bind (wpAny_fieldsOf ho rfl ?_)
  refine wpAny_bind (wpAny_rawItems hT rfl ?_)
  exact wpAny_pure (h p T li)
theorem call_end {D : Addr} {x : Str} {t : Tok} {a : Value} {e : Nat} {r : List Value} {Q : Value → Shared → Prop} (X : Mat s.heap D x t (a :: rawInt e :: r))
    (h : Q (.int e s.toks) { s with toks := s.toks + 1 }) : wpAny (model prog w) A (call (.builtin "re.Match.end") [.ref D]) Q E s := by
  refine wpAny_call_entry slot_re_end X.typ entry_re_end ?_ (args_re_end _)
  unfold Builtin.«re.Match.end»
  refine wpAny_bind ?_
  unfold reOneGroup
  refine wpAny_bind (wpAny_pure ?_)
  dsimp only
  refine wpAny_bind (wpAny_reFound X fun p T li => ?_)
  refine wpAny_bind (wpAny_pure ?_)
  refine wpAny_pure ?_
  dsimp only
  refine wpAny_bind (wpAny_mkInt ?_)
  have e1 : (Array.map reRawOf (a :: rawInt ↑e :: r).toArray).getD (2 * 0 + 1) (-1) = (e : Int) := by simp [reRawOf, rawInt, Array.getD]
  rw [e1]
  exact wpAny_pure ⟨_, rfl, h⟩
end
end Mine
end
section
set_option maxRecDepth 100000
namespace Mine
open PySem PySem.Sre PySem.Builtin.Re
/-- a group's ends -/
def grp (marks : Array (Option Nat)) (lm : Int) (g : Nat) : Option (Nat × Nat) :=
  match if ((2 * g + 1 : Nat) : Int) ≤ lm then (marks.getD (2 * g) none, marks.getD (2 * g + 1) none) else (none, none) with
  | (some b, some e) => some (b, e)
  | _ => none
def grpI (o : Option (Nat × Nat)) : Int × Int := match o with | some (b, e) => (b, e) | none => (-1, -1)
theorem spans_five (st e : Nat) (marks : Array (Option Nat)) (lm : Int) : spansOf st e marks lm 5 = rawInt st :: rawInt e :: (List.range 5).flatMap fun g => [rawInt (grpI (grp marks lm g)).1, rawInt (grpI (grp marks lm g)).2] := by
  unfold spansOf
  congr 2
  apply congrArg (fun f => List.flatMap f (List.range 5))
  funext g
  unfold grp grpI
  split <;> simp_all
/-- what a group's value is -/
def GrpIs (x : Str) (o : Option (Nat × Nat)) (v : Value) : Prop := match o with
  | some (b, e) => ∃ t, v = .str ⟨x.cps.extract b e⟩ t
  | none => v = .none
theorem neg_nats (b e : Nat) : (decide ((b : Int) < 0) || decide ((e : Int) < 0)) = false := by
  rw [decide_eq_false (show ¬ ((b : Int) < 0) by omega), decide_eq_false (show ¬ ((e : Int) < 0) by omega)]; rfl
inductive All2 {α β : Type} (R : α → β → Prop) : List α → List β → Prop
  | nil : All2 R [] []
  | cons {a : α} {b : β} {l : List α} {k : List β} : R a b → All2 R l k → All2 R (a :: l) (b :: k)
section
variable {prog : Program} {w : World} {A : Around} {E : Value → Shared → Prop} {s : Shared}
theorem wpAny_mapM_val {α : Type} {f : α → Sem Value} {R : α → Value → Prop} : ∀ {l : List α} {s : Shared} {Q : List Value → Shared → Prop},
    (∀ a ∈ l, ∀ tk (Q' : Value → Shared → Prop), (∀ v tk', R a v → Q' v { s with toks := tk' }) → wpAny (model prog w) A (f a) Q' E { s with toks := tk }) →
    (∀ vs tk, All2 R l vs → Q vs { s with toks := tk }) → wpAny (model prog w) A (l.mapM f) Q E s
  | [], s, Q, _, h => by
    rw [List.mapM_nil]; exact wpAny_pure (h [] s.toks .nil)
  | a :: l, s, Q, hf, h => by
    rw [List.mapM_cons]
    refine wpAny_bind (hf a (.head _) s.toks _ fun v tk' hv => ?_)
    refine wpAny_bind (wpAny_mapM_val (l := l) (s := { s with toks := tk' }) (fun b hb tk Q' hq => hf b (.tail _ hb) tk Q' hq) fun vs tk hvs => ?_)
    exact wpAny_pure (h _ _ (.cons hv hvs))
theorem wpAny_groupText {x : Str} {t : Tok} {p T : Addr} {li : Int} {sp : Array Int} {g : Nat} {o : Option (Nat × Nat)} {Q : Value → Shared → Prop} (hx : x.length ≤ 1000) (h1 : sp.getD (2 * g) (-1) = (grpI o).1) (h2 : sp.getD (2 * g + 1) (-1) = (grpI o).2)
    (h : ∀ v tk, GrpIs x o v → Q v { s with toks := tk }) : wpAny (model prog w) A (reGroupText { fields := #[.str x t, .ref p, rawInt 0, rawInt x.cps.size, rawInt li, .ref T], spans := sp } g .none) Q E s := by
  unfold reGroupText
  dsimp only
  rw [h1, h2]
  cases o with
  | none => exact wpAny_pure (h .none s.toks rfl)
  | some be =>
    obtain ⟨b, e⟩ := be
    dsimp only [grpI]
    refine wpAny_ite_false (decide_eq_false (fun h => absurd (h.symm.trans (neg_nats b e)) (by decide))) ?_
    refine wpAny_bind (wpAny_pure ?_)
    dsimp only
    unfold reSlice
    rw [if_pos (by rfl)]
    refine wpAny_mkStr (h _ _ ⟨s.toks, rfl⟩) ?_
    have hs : (x.cps.extract b e).size ≤ 1000 := by
      rw [Array.size_extract]
      have : x.cps.size ≤ 1000 := hx
      omega
    exact Nat.le_trans hs (by decide)
theorem call_groups {D : Addr} {x : Str} {t : Tok} {st e : Nat} {marks : Array (Option Nat)} {lm : Int} {Q : Value → Shared → Prop} (X : Mat s.heap D x t (spansOf st e marks lm 5)) (hx : x.length ≤ 1000)
    (h : ∀ v0 v1 v2 v3 v4 tk, GrpIs x (grp marks lm 0) v0 → GrpIs x (grp marks lm 1) v1 → GrpIs x (grp marks lm 2) v2 → GrpIs x (grp marks lm 3) v3 → GrpIs x (grp marks lm 4) v4 → Q (.ref s.heap.objs.size) { s with heap := s.heap.push (spanTup [v0, v1, v2, v3, v4]), toks := tk }) :
    wpAny (model prog w) A (call (.builtin "re.Match.groups") [.ref D]) Q E s := by
  refine wpAny_call_entry slot_re_groups X.typ entry_re_groups ?_ (args_re_groups _)
  unfold Builtin.«re.Match.groups»
  refine wpAny_bind ?_
  unfold reWithDefault
  dsimp only
  rw [named_groups]
  refine wpAny_bind (wpAny_pure ?_)
  dsimp only
  refine wpAny_bind (wpAny_reFound X fun p T li => ?_)
  refine wpAny_pure ?_
  dsimp only
  rw [spans_five]
  have hsz : (((rawInt st :: rawInt e :: (List.range 5).flatMap fun g => [rawInt (grpI (grp marks lm g)).1, rawInt (grpI (grp marks lm g)).2]).toArray.map reRawOf).size / 2 - 1) = 5 := by simp [List.range, List.range.loop]
  rw [hsz]
  refine wpAny_bind (wpAny_mapM_val (R := fun g v => GrpIs x (grp marks lm g) v) ?_ fun vs tk hvs => ?_)
  · intro g hg tk Q' hq
    refine wpAny_groupText (o := grp marks lm g) hx ?_ ?_ (fun v tk hv => hq v tk hv)
    all_goals
      have : g = 0 ∨ g = 1 ∨ g = 2 ∨ g = 3 ∨ g = 4 := by
        have := List.mem_range.mp hg
        omega
      rcases this with rfl | rfl | rfl | rfl | rfl <;> simp [List.range, List.range.loop, Array.getD, reRawOf, rawInt]
  · rw [show List.range 5 = [0, 1, 2, 3, 4] from rfl] at hvs
    cases hvs; rename_i h0 hvs
    cases hvs; rename_i h1 hvs
    cases hvs; rename_i h2 hvs
    cases hvs; rename_i h3 hvs
    cases hvs; rename_i h4 hvs
    cases hvs
    refine wpAny_bind (wpAny_newTuple ?_ (show 5 ≤ sizeLine by decide))
    exact wpAny_pure ⟨_, rfl, h _ _ _ _ _ _ h0 h1 h2 h3 h4⟩
end
end Mine
end
section
set_option maxRecDepth 100000
namespace Mine
open PySem PySem.Sre
/-- what is left of a text at a place -/
structure Rem (t : Array Nat) (pos : Nat) (r : List Nat) : Prop where
  drop : t.toList.drop pos = r
  le : pos ≤ t.size
theorem Rem.cons {t : Array Nat} {pos c : Nat} {r : List Nat} (h : Rem t pos (c :: r)) : pos < t.size ∧ t.getD pos 0 = c ∧ Rem t (pos + 1) r := by
  obtain ⟨a, b, d⟩ := at_drop h.drop
  exact ⟨a, b, d, a⟩
theorem Rem.nil {t : Array Nat} {pos : Nat} (h : Rem t pos []) : pos = t.size := by
  have := List.drop_eq_nil_iff.mp h.drop
  rw [Array.length_toList] at this
  have := h.le; omega
theorem Rem.app {t : Array Nat} {pos : Nat} {p r : List Nat} (h : Rem t pos (p ++ r)) : Rem t (pos + p.length) r := by
  have hl : pos + p.length ≤ t.size := by
    have := congrArg List.length h.drop
    rw [List.length_drop, Array.length_toList, List.length_append] at this
    have := h.le; omega
  refine ⟨?_, hl⟩
  rw [← List.drop_drop, h.drop, List.drop_left]
theorem takeWhile_app {p : Nat → Bool} {r : List Nat} (hr : ∀ c u, r = c :: u → p c = false) : ∀ {D : List Nat}, (∀ c ∈ D, p c = true) → (D ++ r).takeWhile p = D
  | [], _ => by
    cases r with
    | nil => rfl
    | cons c u => rw [List.nil_append, List.takeWhile_cons, hr c u rfl]; rfl
  | d :: D, h => by
    rw [List.cons_append, List.takeWhile_cons, h d (.head _), if_pos rfl, takeWhile_app hr fun c hc => h c (.tail _ hc)]
theorem size_marked (mk : Array (Option Nat)) (lm : Int) (i pos : Nat) : (marked mk lm i pos).size = mk.size := by
  unfold marked
  rw [Array.size_setIfInBounds]
  split
  · rfl
  · generalize List.range i = l
    have : ∀ (l : List Nat) (a : Array (Option Nat)), (l.foldl (fun (a : Array (Option Nat)) (j : Nat) => if (j : Int) > lm then a.setIfInBounds j none else a) a).size = a.size := by
      intro l
      induction l with
      | nil => intro a; rfl
      | cons j r ih =>
        intro a
        rw [List.foldl_cons, ih]
        split
        · rw [Array.size_setIfInBounds]
        · rfl
    exact this l mk
section
variable {C t : Array Nat} {lim st pc pos W W' : Nat} {mk : Array (Option Nat)} {lm : Int} {ls : Array Loop} {inn : Option Nat} {m : M}
/-- what a code's run of a tail's signs is -/
structure TailRun (C : Array Nat) (pc least : Nat) : Prop where
  lt : pc < C.size
  c0 : C.getD pc 0 = 24
  c1 : C.getD (pc + 1) 0 = 16
  c2 : C.getD (pc + 2) 0 = least
  c3 : C.getD (pc + 3) 0 = 4294967295
  c4 : C.getD (pc + 4) 0 = 13
  c6 : C.getD (pc + 6) 0 = 9
  c7 : C.getD (pc + 7) 0 = 0
  c8 : C.getD (pc + 8) 0 = 67067904
  c9 : C.getD (pc + 9) 0 = 134217726
  c10 : C.getD (pc + 10) 0 = 134217726
  c15 : C.getD (pc + 15) 0 = 0
  sz : 2 ≤ C.size
/-- a code's block: a sign, a group of a tail's signs, all of it once at most -/
structure OptB (C : Array Nat) (b c i least : Nat) : Prop where
  lt : b + 27 < C.size
  r0 : C.getD b 0 = 23
  r1 : C.getD (b + 1) 0 = 26
  r2 : C.getD (b + 2) 0 = 0
  r3 : C.getD (b + 3) 0 = 1
  l0 : C.getD (b + 4) 0 = 16
  l1 : C.getD (b + 5) 0 = c
  m0 : C.getD (b + 6) 0 = 17
  m1 : C.getD (b + 7) 0 = i
  run : TailRun C (b + 8) least
  n0 : C.getD (b + 25) 0 = 17
  n1 : C.getD (b + 26) 0 = i + 1
  u0 : C.getD (b + 27) 0 = 18
theorem At.optYes (A : At C t lim st b pos mk lm ls none W m) {c i least : Nat} {p r : List Nat} (B : OptB C b c i least) (hsz : lim = t.size) (hlim : t.size ≤ 4294967295) (hp : ∀ c ∈ t.toList, c < 128) (R : Rem t pos (c :: (p ++ r)))
    (hpt : ∀ c ∈ p, isTail c = true) (hr : ∀ c u, r = c :: u → isTail c = false) (hle : least ≤ p.length) (hmk : mk.size ≤ 10) (hW : W ≤ 1000) :
    Ev 7 m (fun m' => ∃ ls', At C t lim st (b + 28) (pos + 1 + p.length) (marked (marked mk lm i (pos + 1)) (max lm i) (i + 1) (pos + 1 + p.length)) (max (max lm i) ((i + 1 : Nat) : Int)) ls' none (W + 40) m') := by
  obtain ⟨q1, q2, R1⟩ := R.cons
  have htw : (t.toList.drop (pos + 1)).takeWhile isTail = p := by rw [R1.drop]; exact takeWhile_app hr hpt
  have hlt := B.lt
  have e1 : (ls.push { pc := b, outer := none }).getD ls.size { pc := 0, outer := none } = { pc := b, outer := none } := getD_push_last
  have e2 : ((ls.push { pc := b, outer := none }).modify ls.size fun l => { l with count := 0, began := some pos }).getD ls.size { pc := 0, outer := none } = { pc := b, count := 0, began := some pos, outer := none } := by
    rw [getD_mod_same (by rw [Array.size_push]; omega), e1]
  refine ((A.repeat_ (W' := W + 1) (by omega) B.r0 B.r1 (by omega) (by omega)).bind (b := 6) fun m1 A1 => ?_)
  rw [show b + 1 + 26 = b + 27 from rfl] at A1
  refine (A1.take (W' := W + 12) (l := { pc := b, outer := none }) (by omega) B.u0 e1 rfl rfl B.r2 B.r3 (by omega) (by omega)).bind (b := 5) fun m2 A2 => ?_
  refine (A2.lit (c := c) (by show b + 4 < _; omega) B.l0 B.l1 (by omega) q2).bind (b := 4) fun m3 A3 => ?_
  refine (A3.mark (i := i) (by show b + 6 < _; omega) B.m0 B.m1).bind (b := 3) fun m4 A4 => ?_
  refine (A4.run (W' := W + 23) isTail (by show b + 8 < _; omega) B.run.c0 B.run.c1 B.run.c2 B.run.c3 (by have := R1.le; omega) hsz (by omega) (fun c hc sn => accepts_tail B.run.c4 B.run.c6 B.run.c7 B.run.c8 B.run.c9 B.run.c10 B.run.c15 B.run.sz (hp c hc) sn) (by rw [htw]; exact hle) (by rw [size_marked]; omega) (by omega)).bind (b := 2) fun m5 A5 => ?_
  rw [htw] at A5
  refine (A5.mark (i := i + 1) (by show b + 25 < _; omega) B.n0 B.n1).bind (b := 1) fun m6 A6 => ?_
  refine (A6.tail (W' := W + 40) (l := { pc := b, count := 0, began := some pos, outer := none }) (by show b + 27 < _; omega) B.u0 e2 rfl B.r2 B.r3 (by omega) (by omega)).mono fun m7 A7 => ⟨_, A7⟩
theorem At.optNo (A : At C t lim st b pos mk lm ls none W m) {c i least : Nat} {r : List Nat} (B : OptB C b c i least) (hsz : lim = t.size) (R : Rem t pos r)
    (hr : ∀ d u, r = d :: u → d ≠ c) (hmk : mk.size ≤ 10) (hW : W ≤ 1000) :
    Ev 7 m (fun m' => ∃ ls', At C t lim st (b + 28) pos mk lm ls' none (W + 40) m') := by
  have hlt := B.lt
  have e1 : (ls.push { pc := b, outer := none }).getD ls.size { pc := 0, outer := none } = { pc := b, outer := none } := getD_push_last
  refine ((A.repeat_ (W' := W + 1) (by omega) B.r0 B.r1 (by omega) (by omega)).bind (b := 1 + 2) fun m1 A1 => ?_).le (by decide)
  rw [show b + 1 + 26 = b + 27 from rfl] at A1
  refine (A1.skip (k := 1) (W' := W + 40) (l := { pc := b, outer := none }) (by omega) B.u0 (by rw [Array.size_push]; omega) e1 rfl rfl B.r2 B.r3 (by omega) (by omega) ?_).mono fun m2 A2 => ⟨_, A2⟩
  intro m1 A1
  obtain ⟨sn, e⟩ := A1.litNo (c := c) (by show b + 4 < _; omega) B.l0 B.l1 (by
    cases hr' : r with
    | nil => exact .inl (by rw [hr'] at R; have := R.nil; omega)
    | cons d u =>
      rw [hr'] at R
      exact .inr (by rw [R.cons.2.1]; exact hr d u hr'))
  refine ⟨1, Nat.le_refl _, sn, m1.pc, m1.pos, ?_⟩
  rw [runFor_succ, if_neg (by rw [A1.outcome]; simp), e]
  rfl
theorem At.digR (A : At C t lim st pc pos mk lm ls inn W m) {D r : List Nat} (R : DigRun C pc) (hsz : lim = t.size) (hlim : t.size ≤ 4294967295) (hp : ∀ c ∈ t.toList, c < 128) (Re : Rem t pos (D ++ r)) (hD : D ≠ []) (hd : ∀ c ∈ D, isDig c = true) (hr : ∀ c u, r = c :: u → isDig c = false) (hW : W + 1 + mk.size ≤ W') (hW2 : W' ≤ 16777216) :
    Ev 1 m (At C t lim st (pc + 10) (pos + D.length) mk lm ls inn W') := by
  have htw : (t.toList.drop pos).takeWhile isDig = D := by rw [Re.drop]; exact takeWhile_app hr hd
  have := A.digits (W' := W') R hsz hlim hp Re.le (by rw [htw]; exact hD) hW hW2
  rw [htw] at this
  exact this
end
end Mine
end
section
set_option maxRecDepth 100000
namespace Mine
open PySem PySem.Sre
def partC : Array Nat := #[14, 4, 0, 1, 4294967295, 6, 0, 17, 0, 24, 9, 1, 4294967295, 13, 4, 8, 10, 0, 1, 17, 1, 23, 40, 0, 1, 16, 46, 17, 2, 24, 9, 1, 4294967295, 13, 4, 8, 10, 0, 1, 17, 3, 23, 19, 0, 1, 16, 46, 17, 4, 24, 9, 1, 4294967295, 13, 4, 8, 10, 0, 1, 17, 5, 18, 18, 23, 26, 0, 1, 16, 45, 17, 6, 24, 16, 0, 4294967295, 13, 11, 9, 0, 67067904, 134217726, 134217726, 0, 0, 0, 0, 0, 1, 17, 7, 18, 23, 26, 0, 1, 16, 43, 17, 8, 24, 16, 0, 4294967295, 13, 11, 9, 0, 67067904, 134217726, 134217726, 0, 0, 0, 0, 0, 1, 17, 9, 18, 6, 5, 1]
def fullC : Array Nat := #[14, 4, 0, 5, 4294967295, 6, 0, 17, 0, 24, 9, 1, 4294967295, 13, 4, 8, 10, 0, 1, 17, 1, 16, 46, 17, 2, 24, 9, 1, 4294967295, 13, 4, 8, 10, 0, 1, 17, 3, 16, 46, 17, 4, 24, 9, 1, 4294967295, 13, 4, 8, 10, 0, 1, 17, 5, 23, 26, 0, 1, 16, 45, 17, 6, 24, 16, 1, 4294967295, 13, 11, 9, 0, 67067904, 134217726, 134217726, 0, 0, 0, 0, 0, 1, 17, 7, 18, 23, 26, 0, 1, 16, 43, 17, 8, 24, 16, 1, 4294967295, 13, 11, 9, 0, 67067904, 134217726, 134217726, 0, 0, 0, 0, 0, 1, 17, 9, 18, 6, 5, 1]
def buildL : Option (List Nat) → List Nat
  | none => []
  | some b => 43 :: b
/-- a version's tails as a text has them -/
def tailL (P B : Option (List Nat)) : List Nat := (match P with | none => [] | some p => 45 :: p) ++ buildL B
def preMk (mk : Array (Option Nat)) (lm : Int) (pos : Nat) : Option (List Nat) → Array (Option Nat) × Int × Nat
  | none => (mk, lm, pos)
  | some p => (marked (marked mk lm 6 (pos + 1)) (max lm 6) 7 (pos + 1 + p.length), max (max lm 6) 7, pos + 1 + p.length)
def tailMk (mk : Array (Option Nat)) (lm : Int) (pos : Nat) (P B : Option (List Nat)) : Array (Option Nat) × Int :=
  match B with
  | none => ((preMk mk lm pos P).1, (preMk mk lm pos P).2.1)
  | some q => (marked (marked (preMk mk lm pos P).1 (preMk mk lm pos P).2.1 8 ((preMk mk lm pos P).2.2 + 1)) (max (preMk mk lm pos P).2.1 8) 9 ((preMk mk lm pos P).2.2 + 1 + q.length), max (max (preMk mk lm pos P).2.1 8) 9)
theorem preMk_size (mk : Array (Option Nat)) (lm : Int) (pos : Nat) (P : Option (List Nat)) : (preMk mk lm pos P).1.size = mk.size := by
  cases P with
  | none => rfl
  | some p => show (marked _ _ _ _).size = _; rw [size_marked, size_marked]
section
variable {C t : Array Nat} {pos W : Nat} {mk : Array (Option Nat)} {lm : Int} {ls : Array Loop} {m : M}
theorem not_tail_plus {B : Option (List Nat)} : ∀ c u, buildL B = c :: u → isTail c = false := by
  intro c u h
  cases B with
  | none => cases h
  | some b => injection h with h _; rw [← h]; decide
theorem tail_run (A : At C t t.size 0 b pos mk lm ls none W m) {l : Nat} {P B : Option (List Nat)} (B1 : OptB C b 45 6 l) (B2 : OptB C (b + 28) 43 8 l) (hsz : b + 58 < C.size) (x0 : C.getD (b + 56) 0 = 6) (x1 : C.getD (b + 57) 0 = 5) (x2 : C.getD (b + 58) 0 = 1)
    (hlim : t.size ≤ 4294967295) (hp : ∀ c ∈ t.toList, c < 128) (R : Rem t pos (tailL P B)) (hP : ∀ p, P = some p → (∀ c ∈ p, isTail c = true) ∧ l ≤ p.length) (hB : ∀ p, B = some p → (∀ c ∈ p, isTail c = true) ∧ l ≤ p.length) (hmk : mk.size = 10) (hW : W ≤ 100) :
    Ev 300 m (Done 0 t.size (tailMk mk lm pos P B).1 (tailMk mk lm pos P B).2) := by
  have s1 : Ev 7 m (fun m' => ∃ ls', At C t t.size 0 (b + 28) (preMk mk lm pos P).2.2 (preMk mk lm pos P).1 (preMk mk lm pos P).2.1 ls' none (W + 40) m') := by
    cases P with
    | none =>
      refine A.optNo B1 rfl R ?_ (by omega) (by omega)
      intro d u h
      cases B with
      | none => cases h
      | some b => injection h with h _; rw [← h]; decide
    | some p =>
      refine A.optYes B1 rfl hlim hp (p := p) (r := buildL B) R (hP p rfl).1 not_tail_plus (hP p rfl).2 (by omega) (by omega)
  have R2 : Rem t (preMk mk lm pos P).2.2 (buildL B) := by
    cases P with
    | none => exact R
    | some p => exact (show Rem t pos (45 :: (p ++ _)) from R).cons.2.2.app
  refine (s1.bind (b := 293) fun m1 ⟨ls1, A1⟩ => ?_)
  have s2 : Ev 7 m1 (fun m' => ∃ ls', At C t t.size 0 (b + 56) t.size (tailMk mk lm pos P B).1 (tailMk mk lm pos P B).2 ls' none (W + 80) m') := by
    cases B with
    | none =>
      have := R2.nil
      have h := A1.optNo B2 rfl R2 (fun d u h => by cases h) (by rw [preMk_size]; omega) (by omega)
      rw [this] at h
      exact h
    | some q =>
      have h := A1.optYes B2 rfl hlim hp (p := q) (r := []) (by rw [List.append_nil]; exact R2) (hB q rfl).1 (fun c u h => by cases h) (hB q rfl).2 (by rw [preMk_size]; omega) (by omega)
      have e : (preMk mk lm pos P).2.2 + 1 + q.length = t.size := by
        have := R2.cons.2.2
        rw [← List.append_nil q] at this
        exact this.app.nil
      show Ev 7 m1 (fun m' => ∃ ls', At C t t.size 0 (b + 56) t.size (marked _ _ 9 ((preMk mk lm pos P).2.2 + 1 + q.length)) _ ls' none (W + 80) m')
      refine h.mono fun m2 ⟨ls2, A2⟩ => ⟨ls2, ?_⟩
      have A3 := A2
      rw [show b + 28 + 28 = b + 56 from rfl, show W + 40 + 40 = W + 80 from rfl] at A3
      exact e ▸ A3
  refine (s2.bind (b := 1 + (1 + (W + 80 + 1))) fun m2 ⟨ls2, A2⟩ => ?_).le (by omega)
  exact (A2.ends (by omega) x0 x1).bind fun m3 A3 => A3.finish (by omega) x2
end
end Mine
end
section
set_option maxRecDepth 100000
namespace Mine
open PySem PySem.Sre
theorem part_eq {t : Array Nat} (h : 1 ≤ t.size) : forMatch partC t 5 0 t.size false false = St partC t t.size 0 5 0 (Array.replicate 10 none) (-1) #[] none 0 0 true (-1) [] 0 (({} : Seen).add 14) := by
  unfold forMatch
  rw [if_neg]
  · rfl
  · show ¬ (((1 : Nat) != 0 && decide (0 ≤ t.size) && decide (t.size - 0 < 1)) = true)
    have : decide (t.size - 0 < 1) = false := decide_eq_false (by omega)
    rw [this, Bool.and_false]; decide
theorem full_eq {t : Array Nat} (h : 5 ≤ t.size) : forMatch fullC t 5 0 t.size false false = St fullC t t.size 0 5 0 (Array.replicate 10 none) (-1) #[] none 0 0 true (-1) [] 0 (({} : Seen).add 14) := by
  unfold forMatch
  rw [if_neg]
  · rfl
  · show ¬ (((5 : Nat) != 0 && decide (0 ≤ t.size) && decide (t.size - 0 < 5)) = true)
    have : decide (t.size - 0 < 5) = false := decide_eq_false (by omega)
    rw [this, Bool.and_false]; decide
/-- the marks behind the numbers -/
def mk1 (a : Nat) : Array (Option Nat) := #[some 0, some a, none, none, none, none, none, none, none, none]
def mk2 (a b : Nat) : Array (Option Nat) := #[some 0, some a, some (a + 1), some b, none, none, none, none, none, none]
def mk3 (a b c : Nat) : Array (Option Nat) := #[some 0, some a, some (a + 1), some b, some (b + 1), some c, none, none, none, none]
theorem marks1 (a : Nat) : marked (marked (Array.replicate 10 none) (-1) 0 0) (max (-1) ((0 : Nat) : Int)) 1 a = mk1 a := rfl
theorem marks2 (a b : Nat) : marked (marked (mk1 a) 1 2 (a + 1)) (max 1 ((2 : Nat) : Int)) 3 b = mk2 a b := rfl
theorem marks3 (a b c : Nat) : marked (marked (mk2 a b) 3 4 (b + 1)) (max 3 ((4 : Nat) : Int)) 5 c = mk3 a b c := rfl
section
variable {t : Array Nat}
theorem tail_head_ne {P B : Option (List Nat)} : ∀ c u, tailL P B = c :: u → isDig c = false ∧ c ≠ 46 := by
  intro c u h
  cases P with
  | some p => injection h with h _; rw [← h]; decide
  | none =>
    cases B with
    | some p => injection h with h _; rw [← h]; decide
    | none => cases h
theorem part_blocks : OptB partC 63 45 6 0 ∧ OptB partC 91 43 8 0 :=
  ⟨⟨by decide, rfl, rfl, rfl, rfl, rfl, rfl, rfl, rfl, ⟨by decide, rfl, rfl, rfl, rfl, rfl, rfl, rfl, rfl, rfl, rfl, rfl, by decide⟩, rfl, rfl, rfl⟩, ⟨by decide, rfl, rfl, rfl, rfl, rfl, rfl, rfl, rfl, ⟨by decide, rfl, rfl, rfl, rfl, rfl, rfl, rfl, rfl, rfl, rfl, rfl, by decide⟩, rfl, rfl, rfl⟩⟩
theorem full_blocks : OptB fullC 53 45 6 1 ∧ OptB fullC 81 43 8 1 :=
  ⟨⟨by decide, rfl, rfl, rfl, rfl, rfl, rfl, rfl, rfl, ⟨by decide, rfl, rfl, rfl, rfl, rfl, rfl, rfl, rfl, rfl, rfl, rfl, by decide⟩, rfl, rfl, rfl⟩, ⟨by decide, rfl, rfl, rfl, rfl, rfl, rfl, rfl, rfl, ⟨by decide, rfl, rfl, rfl, rfl, rfl, rfl, rfl, rfl, rfl, rfl, rfl, by decide⟩, rfl, rfl, rfl⟩⟩
theorem part_first {D r : List Nat} (hlim : t.size ≤ 4294967295) (hp : ∀ c ∈ t.toList, c < 128) (R : Rem t 0 (D ++ r)) (hD : D ≠ []) (hd : ∀ c ∈ D, isDig c = true) (hr : ∀ c u, r = c :: u → isDig c = false) :
    Ev 5 (forMatch partC t 5 0 t.size false false) (At partC t t.size 0 62 D.length (mk1 D.length) 1 #[{ pc := 21, outer := none }] (some 0) 20) ∧ Rem t D.length r := by
  have R' := R.app
  rw [Nat.zero_add] at R'
  refine ⟨?_, R'⟩
  have h1 : 1 ≤ t.size := Nat.le_trans (List.length_pos_iff.mpr hD) R'.le
  rw [part_eq h1]
  have A0 : At partC t t.size 0 5 0 (Array.replicate 10 none) (-1) #[] none 0 (St partC t t.size 0 5 0 (Array.replicate 10 none) (-1) #[] none 0 0 true (-1) [] 0 (({} : Seen).add 14)) := At.mk' (fun f hf => nomatch hf) (Nat.le_refl _) (Nat.le_refl _)
  refine (A0.begins (by decide) rfl rfl).bind (b := 4) fun m1 A1 => ?_
  refine (A1.mark (i := 0) (by decide) rfl rfl).bind (b := 3) fun m2 A2 => ?_
  refine (A2.digR (W' := 15) (D := D) (r := r) ⟨by decide, rfl, rfl, rfl, rfl, rfl, rfl, rfl, rfl, by decide⟩ rfl hlim hp R hD hd hr (by rw [size_marked]; decide) (by decide)).bind (b := 2) fun m3 A3 => ?_
  rw [Nat.zero_add] at A3
  refine (A3.mark (i := 1) (by decide) rfl rfl).bind (b := 1) fun m4 A4 => ?_
  rw [marks1] at A4
  exact (A4.repeat_ (W' := 20) (w1 := 40) (by decide) rfl rfl (by decide) (by decide)).mono fun m5 A5 => A5
/-- a loop whose first sign is not there is passed by -/
theorem At.passDot {C : Array Nat} {pc pos W W' : Nat} {mk : Array (Option Nat)} {lm : Int} {ls : Array Loop} {i : Nat} {m : M} (A : At C t t.size 0 pc pos mk lm ls (some i) W m) {l : Loop} {r : List Nat} (hpc : pc < C.size) (h0 : C.getD pc 0 = 18) (hin : i < ls.size) (hi : ls.getD i { pc := 0, outer := none } = l) (hc : l.count = -1) (hb : l.began = none) (hm2 : C.getD (l.pc + 2) 0 = 0) (hm3 : C.getD (l.pc + 3) 0 = 1)
    (hl : l.pc + 4 < C.size) (l0 : C.getD (l.pc + 4) 0 = 16) (l1 : C.getD (l.pc + 4 + 1) 0 = 46) (R : Rem t pos r) (hr : ∀ d u, r = d :: u → d ≠ 46) (hW : W + 1 + mk.size ≤ W') (hW2 : W' ≤ 16777216) :
    Ev 3 m (At C t t.size 0 (pc + 1) pos mk lm ls l.outer W') := by
  refine A.skip (k := 1) hpc h0 hin hi hc hb hm2 hm3 hW hW2 ?_
  intro m1 A1
  obtain ⟨sn, e⟩ := A1.litNo (c := 46) hl l0 l1 (by
    cases hr' : r with
    | nil => exact .inl (by rw [hr'] at R; have := R.nil; omega)
    | cons d u =>
      rw [hr'] at R
      exact .inr (by rw [R.cons.2.1]; exact hr d u hr'))
  refine ⟨1, Nat.le_refl _, sn, m1.pc, m1.pos, ?_⟩
  rw [runFor_succ, if_neg (by rw [A1.outcome]; simp), e]
  rfl
theorem size_mod1 {f : Loop → Loop} {l : Loop} : (#[l].modify 0 f).size = 1 := by rw [Array.size_modify]; rfl
theorem part_second {D0 D r : List Nat} {m : M} (hlim : t.size ≤ 4294967295) (hp : ∀ c ∈ t.toList, c < 128) (A : At partC t t.size 0 62 D0.length (mk1 D0.length) 1 #[{ pc := 21, outer := none }] (some 0) 20 m) (R : Rem t D0.length (46 :: (D ++ r))) (hD : D ≠ []) (hd : ∀ c ∈ D, isDig c = true) (hr : ∀ c u, r = c :: u → isDig c = false) :
    Ev 6 m (At partC t t.size 0 61 (D0.length + 1 + D.length) (mk2 D0.length (D0.length + 1 + D.length)) 3 ((#[{ pc := 21, outer := none }].modify 0 fun l => { l with count := 0, began := some D0.length }).push { pc := 41, outer := some 0 }) (some 1) 50) ∧ Rem t (D0.length + 1 + D.length) r := by
  obtain ⟨q1, q2, R1⟩ := R.cons
  refine ⟨?_, R1.app⟩
  refine (A.take (W' := 31) (l := { pc := 21, outer := none }) (by decide) rfl rfl rfl rfl rfl rfl (by show 20 + 1 + 10 ≤ 31; decide) (by decide)).bind (b := 5) fun m1 A1 => ?_
  refine (A1.lit (c := 46) (by decide) rfl rfl q1 q2).bind (b := 4) fun m2 A2 => ?_
  refine (A2.mark (i := 2) (by decide) rfl rfl).bind (b := 3) fun m3 A3 => ?_
  refine (A3.digR (W' := 45) (D := D) (r := r) ⟨by decide, rfl, rfl, rfl, rfl, rfl, rfl, rfl, rfl, by decide⟩ rfl hlim hp R1 hD hd hr (by rw [size_marked]; show 31 + 1 + 10 ≤ 45; decide) (by decide)).bind (b := 2) fun m4 A4 => ?_
  refine (A4.mark (i := 3) (by decide) rfl rfl).bind (b := 1) fun m5 A5 => ?_
  rw [marks2] at A5
  refine (A5.repeat_ (W' := 50) (w1 := 19) (by decide) rfl rfl (by decide) (by decide)).mono fun m6 A6 => ?_
  rw [size_mod1] at A6
  exact A6
theorem part_third {a0 a1 : Nat} {D r : List Nat} {m : M} (hlim : t.size ≤ 4294967295) (hp : ∀ c ∈ t.toList, c < 128) (A : At partC t t.size 0 61 a1 (mk2 a0 a1) 3 ((#[{ pc := 21, outer := none }].modify 0 fun l => { l with count := 0, began := some a0 }).push { pc := 41, outer := some 0 }) (some 1) 50 m) (R : Rem t a1 (46 :: (D ++ r))) (hD : D ≠ []) (hd : ∀ c ∈ D, isDig c = true) (hr : ∀ c u, r = c :: u → isDig c = false) :
    Ev 7 m (fun m' => ∃ ls, At partC t t.size 0 63 (a1 + 1 + D.length) (mk3 a0 a1 (a1 + 1 + D.length)) 5 ls none 90 m') ∧ Rem t (a1 + 1 + D.length) r := by
  obtain ⟨q1, q2, R1⟩ := R.cons
  refine ⟨?_, R1.app⟩
  have sz : ((#[({ pc := 21, outer := none } : Loop)].modify 0 fun l => { l with count := 0, began := some a0 }).push { pc := 41, outer := some 0 }).size = 2 := by rw [Array.size_push, size_mod1]
  have e1 : ((#[({ pc := 21, outer := none } : Loop)].modify 0 fun l => { l with count := 0, began := some a0 }).push { pc := 41, outer := some 0 }).getD 1 { pc := 0, outer := none } = { pc := 41, outer := some 0 } := by
    have := getD_push_last (ls := #[({ pc := 21, outer := none } : Loop)].modify 0 fun l => { l with count := 0, began := some a0 }) (l := { pc := 41, outer := some 0 }) (d := { pc := 0, outer := none })
    rw [size_mod1] at this; exact this
  have e0 : ((#[({ pc := 21, outer := none } : Loop)].modify 0 fun l => { l with count := 0, began := some a0 }).push { pc := 41, outer := some 0 }).getD 0 { pc := 0, outer := none } = { pc := 21, count := 0, began := some a0, outer := none } := by
    rw [getD_push_lt (by rw [size_mod1]; decide), getD_mod_same (by decide)]; rfl
  refine (A.take (W' := 61) (l := { pc := 41, outer := some 0 }) (by decide) rfl e1 rfl rfl rfl rfl (by show 50 + 1 + 10 ≤ 61; decide) (by decide)).bind (b := 6) fun m1 A1 => ?_
  refine (A1.lit (c := 46) (by decide) rfl rfl q1 q2).bind (b := 5) fun m2 A2 => ?_
  refine (A2.mark (i := 4) (by decide) rfl rfl).bind (b := 4) fun m3 A3 => ?_
  refine (A3.digR (W' := 75) (D := D) (r := r) ⟨by decide, rfl, rfl, rfl, rfl, rfl, rfl, rfl, rfl, by decide⟩ rfl hlim hp R1 hD hd hr (by rw [size_marked]; show 61 + 1 + 10 ≤ 75; decide) (by decide)).bind (b := 3) fun m4 A4 => ?_
  refine (A4.mark (i := 5) (by decide) rfl rfl).bind (b := 2) fun m5 A5 => ?_
  rw [marks3] at A5
  refine (A5.tail (W' := 80) (l := { pc := 41, count := 0, began := some a1, outer := some 0 }) (by decide) rfl (by rw [getD_mod_same (by rw [sz]; decide), e1]) rfl rfl rfl (by decide) (by decide)).bind (b := 1) fun m6 A6 => ?_
  exact (A6.tail (W' := 90) (l := { pc := 21, count := 0, began := some a0, outer := none }) (by decide) rfl (by rw [getD_mod_ne (by decide), e0]) rfl rfl rfl (by decide) (by decide)).mono fun m7 A7 => ⟨_, A7⟩
theorem part_skip2 {a0 a1 : Nat} {r : List Nat} {m : M} (A : At partC t t.size 0 61 a1 (mk2 a0 a1) 3 ((#[{ pc := 21, outer := none }].modify 0 fun l => { l with count := 0, began := some a0 }).push { pc := 41, outer := some 0 }) (some 1) 50 m) (R : Rem t a1 r) (hr : ∀ c u, r = c :: u → c ≠ 46) :
    Ev 4 m (fun m' => ∃ ls, At partC t t.size 0 63 a1 (mk2 a0 a1) 3 ls none 90 m') := by
  have sz : ((#[({ pc := 21, outer := none } : Loop)].modify 0 fun l => { l with count := 0, began := some a0 }).push { pc := 41, outer := some 0 }).size = 2 := by rw [Array.size_push, size_mod1]
  have e1 : ((#[({ pc := 21, outer := none } : Loop)].modify 0 fun l => { l with count := 0, began := some a0 }).push { pc := 41, outer := some 0 }).getD 1 { pc := 0, outer := none } = { pc := 41, outer := some 0 } := by
    have := getD_push_last (ls := #[({ pc := 21, outer := none } : Loop)].modify 0 fun l => { l with count := 0, began := some a0 }) (l := { pc := 41, outer := some 0 }) (d := { pc := 0, outer := none })
    rw [size_mod1] at this; exact this
  have e0 : ((#[({ pc := 21, outer := none } : Loop)].modify 0 fun l => { l with count := 0, began := some a0 }).push { pc := 41, outer := some 0 }).getD 0 { pc := 0, outer := none } = { pc := 21, count := 0, began := some a0, outer := none } := by
    rw [getD_push_lt (by rw [size_mod1]; decide), getD_mod_same (by decide)]; rfl
  refine (A.passDot (W' := 70) (l := { pc := 41, outer := some 0 }) (by decide) rfl (by rw [sz]; decide) e1 rfl rfl rfl rfl (by decide) rfl rfl R hr (by show 50 + 1 + 10 ≤ 70; decide) (by decide)).bind (b := 1) fun m1 A1 => ?_
  exact (A1.tail (W' := 90) (l := { pc := 21, count := 0, began := some a0, outer := none }) (by decide) rfl e0 rfl rfl rfl (by decide) (by decide)).mono fun m7 A7 => ⟨_, A7⟩
end
end Mine
end
section
set_option maxRecDepth 100000
namespace Mine
open PySem PySem.Sre
/-- a group's text -/
def gtx (t : Array Nat) (o : Option (Nat × Nat)) : Option (List Nat) := o.map fun be => (t.extract be.1 be.2).toList
theorem ext_rem {t : Array Nat} {b : Nat} {p r : List Nat} (R : Rem t b (p ++ r)) : (t.extract b (b + p.length)).toList = p := by
  rw [Array.toList_extract, List.extract_eq_drop_take, R.drop, Nat.add_sub_cancel_left, List.take_left]
theorem ext_all {t : Array Nat} {b : Nat} {p : List Nat} (R : Rem t b p) : (t.extract b (b + p.length)).toList = p :=
  ext_rem (r := []) (by rw [List.append_nil]; exact R)
/-- what is asked of a match's groups -/
structure Groups (t : Array Nat) (marks : Array (Option Nat)) (lm : Int) (g0 : List Nat) (g1 g2 g3 g4 : Option (List Nat)) : Prop where
  bad : spansBad marks lm 5 = false
  h0 : gtx t (grp marks lm 0) = some g0
  h1 : gtx t (grp marks lm 1) = g1
  h2 : gtx t (grp marks lm 2) = g2
  h3 : gtx t (grp marks lm 3) = g3
  h4 : gtx t (grp marks lm 4) = g4
/-- the tails' groups, told by numbers -/
def preG (pos : Nat) : Option (List Nat) → Option (Nat × Nat)
  | none => none
  | some p => some (pos + 1, pos + 1 + p.length)
def posP (pos : Nat) : Option (List Nat) → Nat
  | none => pos
  | some p => pos + 1 + p.length
theorem gtx_pre {t : Array Nat} {pos : Nat} {P : Option (List Nat)} {r : List Nat} (R : Rem t pos ((match P with | none => [] | some p => 45 :: p) ++ r)) : gtx t (preG pos P) = P ∧ Rem t (posP pos P) r := by
  cases P with
  | none => exact ⟨rfl, R⟩
  | some p =>
    have R1 := (show Rem t pos (45 :: (p ++ r)) from R).cons.2.2
    exact ⟨congrArg some (ext_rem R1), R1.app⟩
theorem gtx_build {t : Array Nat} {pos : Nat} {B : Option (List Nat)} (R : Rem t pos (buildL B)) : gtx t (preG pos B) = B := by
  cases B with
  | none => rfl
  | some p => exact congrArg some (ext_all (show Rem t pos (43 :: p) from R).cons.2.2)
theorem ends_le {a n : Nat} : decide (a + n < a) = false := decide_eq_false (by omega)
theorem tail_groups {t : Array Nat} {pos : Nat} {P B : Option (List Nat)} {mk : Array (Option Nat)} {lm : Int} {o0 o1 o2 : Option (Nat × Nat)} {g0 : List Nat} {g1 g2 : Option (List Nat)} (R : Rem t pos (tailL P B))
    (key : grp (tailMk mk lm pos P B).1 (tailMk mk lm pos P B).2 0 = o0 ∧ grp (tailMk mk lm pos P B).1 (tailMk mk lm pos P B).2 1 = o1 ∧ grp (tailMk mk lm pos P B).1 (tailMk mk lm pos P B).2 2 = o2 ∧
      grp (tailMk mk lm pos P B).1 (tailMk mk lm pos P B).2 3 = preG pos P ∧ grp (tailMk mk lm pos P B).1 (tailMk mk lm pos P B).2 4 = preG (posP pos P) B)
    (hb : spansBad (tailMk mk lm pos P B).1 (tailMk mk lm pos P B).2 5 = false) (h0 : gtx t o0 = some g0) (h1 : gtx t o1 = g1) (h2 : gtx t o2 = g2) :
    Groups t (tailMk mk lm pos P B).1 (tailMk mk lm pos P B).2 g0 g1 g2 P B := by
  obtain ⟨k0, k1, k2, k3, k4⟩ := key
  obtain ⟨e3, R2⟩ := gtx_pre (r := buildL B) R
  exact ⟨hb, by rw [k0]; exact h0, by rw [k1]; exact h1, by rw [k2]; exact h2, by rw [k3]; exact e3, by rw [k4]; exact gtx_build R2⟩
theorem tm1_0 (a : Nat) {p q : List Nat} : tailMk (mk1 a) 1 a none none = (#[some 0, some a, none, none, none, none, none, none, none, none], 1) := by kernel_rfl
theorem tm1_1 (a : Nat) {p q : List Nat} : tailMk (mk1 a) 1 a none (some q) = (#[some 0, some a, none, none, none, none, none, none, some (a + 1), some (a + 1 + q.length)], 9) := by kernel_rfl
theorem tm1_2 (a : Nat) {p q : List Nat} : tailMk (mk1 a) 1 a (some p) none = (#[some 0, some a, none, none, none, none, some (a + 1), some (a + 1 + p.length), none, none], 7) := by kernel_rfl
theorem tm1_3 (a : Nat) {p q : List Nat} : tailMk (mk1 a) 1 a (some p) (some q) = (#[some 0, some a, none, none, none, none, some (a + 1), some (a + 1 + p.length), some ((a + 1 + p.length) + 1), some ((a + 1 + p.length) + 1 + q.length)], 9) := by kernel_rfl
theorem key1 (a : Nat) (P B : Option (List Nat)) : grp (tailMk (mk1 a) 1 a P B).1 (tailMk (mk1 a) 1 a P B).2 0 = some (0, a) ∧ grp (tailMk (mk1 a) 1 a P B).1 (tailMk (mk1 a) 1 a P B).2 1 = none ∧ grp (tailMk (mk1 a) 1 a P B).1 (tailMk (mk1 a) 1 a P B).2 2 = none ∧
      grp (tailMk (mk1 a) 1 a P B).1 (tailMk (mk1 a) 1 a P B).2 3 = preG a P ∧ grp (tailMk (mk1 a) 1 a P B).1 (tailMk (mk1 a) 1 a P B).2 4 = preG (posP a P) B := by
  cases P with
  | none =>
    cases B with
    | none => rw [tm1_0 (p := []) (q := [])]; exact ⟨rfl, rfl, rfl, rfl, rfl⟩
    | some q => rw [tm1_1 (p := [])]; exact ⟨rfl, rfl, rfl, rfl, rfl⟩
  | some p =>
    cases B with
    | none => rw [tm1_2 (q := [])]; exact ⟨rfl, rfl, rfl, rfl, rfl⟩
    | some q => rw [tm1_3]; exact ⟨rfl, rfl, rfl, rfl, rfl⟩
theorem tm2_0 (a b : Nat) {p q : List Nat} : tailMk (mk2 a b) 3 b none none = (#[some 0, some a, some (a + 1), some b, none, none, none, none, none, none], 3) := by kernel_rfl
theorem tm2_1 (a b : Nat) {p q : List Nat} : tailMk (mk2 a b) 3 b none (some q) = (#[some 0, some a, some (a + 1), some b, none, none, none, none, some (b + 1), some (b + 1 + q.length)], 9) := by kernel_rfl
theorem tm2_2 (a b : Nat) {p q : List Nat} : tailMk (mk2 a b) 3 b (some p) none = (#[some 0, some a, some (a + 1), some b, none, none, some (b + 1), some (b + 1 + p.length), none, none], 7) := by kernel_rfl
theorem tm2_3 (a b : Nat) {p q : List Nat} : tailMk (mk2 a b) 3 b (some p) (some q) = (#[some 0, some a, some (a + 1), some b, none, none, some (b + 1), some (b + 1 + p.length), some ((b + 1 + p.length) + 1), some ((b + 1 + p.length) + 1 + q.length)], 9) := by kernel_rfl
theorem key2 (a b : Nat) (P B : Option (List Nat)) : grp (tailMk (mk2 a b) 3 b P B).1 (tailMk (mk2 a b) 3 b P B).2 0 = some (0, a) ∧ grp (tailMk (mk2 a b) 3 b P B).1 (tailMk (mk2 a b) 3 b P B).2 1 = some (a + 1, b) ∧ grp (tailMk (mk2 a b) 3 b P B).1 (tailMk (mk2 a b) 3 b P B).2 2 = none ∧
      grp (tailMk (mk2 a b) 3 b P B).1 (tailMk (mk2 a b) 3 b P B).2 3 = preG b P ∧ grp (tailMk (mk2 a b) 3 b P B).1 (tailMk (mk2 a b) 3 b P B).2 4 = preG (posP b P) B := by
  cases P with
  | none =>
    cases B with
    | none => rw [tm2_0 (p := []) (q := [])]; exact ⟨rfl, rfl, rfl, rfl, rfl⟩
    | some q => rw [tm2_1 (p := [])]; exact ⟨rfl, rfl, rfl, rfl, rfl⟩
  | some p =>
    cases B with
    | none => rw [tm2_2 (q := [])]; exact ⟨rfl, rfl, rfl, rfl, rfl⟩
    | some q => rw [tm2_3]; exact ⟨rfl, rfl, rfl, rfl, rfl⟩
theorem tm3_0 (a b c : Nat) {p q : List Nat} : tailMk (mk3 a b c) 5 c none none = (#[some 0, some a, some (a + 1), some b, some (b + 1), some c, none, none, none, none], 5) := by kernel_rfl
theorem tm3_1 (a b c : Nat) {p q : List Nat} : tailMk (mk3 a b c) 5 c none (some q) = (#[some 0, some a, some (a + 1), some b, some (b + 1), some c, none, none, some (c + 1), some (c + 1 + q.length)], 9) := by kernel_rfl
theorem tm3_2 (a b c : Nat) {p q : List Nat} : tailMk (mk3 a b c) 5 c (some p) none = (#[some 0, some a, some (a + 1), some b, some (b + 1), some c, some (c + 1), some (c + 1 + p.length), none, none], 7) := by kernel_rfl
theorem tm3_3 (a b c : Nat) {p q : List Nat} : tailMk (mk3 a b c) 5 c (some p) (some q) = (#[some 0, some a, some (a + 1), some b, some (b + 1), some c, some (c + 1), some (c + 1 + p.length), some ((c + 1 + p.length) + 1), some ((c + 1 + p.length) + 1 + q.length)], 9) := by kernel_rfl
theorem key3 (a b c : Nat) (P B : Option (List Nat)) : grp (tailMk (mk3 a b c) 5 c P B).1 (tailMk (mk3 a b c) 5 c P B).2 0 = some (0, a) ∧ grp (tailMk (mk3 a b c) 5 c P B).1 (tailMk (mk3 a b c) 5 c P B).2 1 = some (a + 1, b) ∧ grp (tailMk (mk3 a b c) 5 c P B).1 (tailMk (mk3 a b c) 5 c P B).2 2 = some (b + 1, c) ∧
      grp (tailMk (mk3 a b c) 5 c P B).1 (tailMk (mk3 a b c) 5 c P B).2 3 = preG c P ∧ grp (tailMk (mk3 a b c) 5 c P B).1 (tailMk (mk3 a b c) 5 c P B).2 4 = preG (posP c P) B := by
  cases P with
  | none =>
    cases B with
    | none => rw [tm3_0 (p := []) (q := [])]; exact ⟨rfl, rfl, rfl, rfl, rfl⟩
    | some q => rw [tm3_1 (p := [])]; exact ⟨rfl, rfl, rfl, rfl, rfl⟩
  | some p =>
    cases B with
    | none => rw [tm3_2 (q := [])]; exact ⟨rfl, rfl, rfl, rfl, rfl⟩
    | some q => rw [tm3_3]; exact ⟨rfl, rfl, rfl, rfl, rfl⟩
/-- a bad span is a group whose ends stand the wrong way -/
theorem spansBad_of {marks : Array (Option Nat)} {lm : Int} (h : ∀ g b e, g < 5 → grp marks lm g = some (b, e) → b ≤ e) : spansBad marks lm 5 = false := by
  unfold spansBad
  rw [List.any_eq_false]
  intro g hg
  have hg5 := List.mem_range.mp hg
  split
  · rename_i b e hb he
    intro hq
    rw [Bool.and_eq_true, decide_eq_true_eq, decide_eq_true_eq] at hq
    have : grp marks lm g = some (b, e) := by
      unfold grp
      rw [if_pos hq.1, hb, he]
    have := h g b e hg5 this
    omega
  · decide
theorem bad_all {t : Array Nat} {pos : Nat} {P B : Option (List Nat)} {mk : Array (Option Nat)} {lm : Int} {o0 o1 o2 : Option (Nat × Nat)}
    (key : grp (tailMk mk lm pos P B).1 (tailMk mk lm pos P B).2 0 = o0 ∧ grp (tailMk mk lm pos P B).1 (tailMk mk lm pos P B).2 1 = o1 ∧ grp (tailMk mk lm pos P B).1 (tailMk mk lm pos P B).2 2 = o2 ∧
      grp (tailMk mk lm pos P B).1 (tailMk mk lm pos P B).2 3 = preG pos P ∧ grp (tailMk mk lm pos P B).1 (tailMk mk lm pos P B).2 4 = preG (posP pos P) B)
    (h0 : ∀ b e, o0 = some (b, e) → b ≤ e) (h1 : ∀ b e, o1 = some (b, e) → b ≤ e) (h2 : ∀ b e, o2 = some (b, e) → b ≤ e) : spansBad (tailMk mk lm pos P B).1 (tailMk mk lm pos P B).2 5 = false := by
  obtain ⟨k0, k1, k2, k3, k4⟩ := key
  have pg : ∀ pos P b e, preG pos P = some (b, e) → b ≤ e := by
    intro pos P b e h
    cases P with
    | none => cases h
    | some p => injection h with h; injection h with h1 h2; omega
  refine spansBad_of fun g b e hg hq => ?_
  have : g = 0 ∨ g = 1 ∨ g = 2 ∨ g = 3 ∨ g = 4 := by omega
  rcases this with rfl | rfl | rfl | rfl | rfl
  · exact h0 b e (k0 ▸ hq)
  · exact h1 b e (k1 ▸ hq)
  · exact h2 b e (k2 ▸ hq)
  · exact pg _ _ _ _ (k3 ▸ hq)
  · exact pg _ _ _ _ (k4 ▸ hq)
/-- a version's text told by its parts -/
def verL (rows : List (List Nat)) (P B : Option (List Nat)) : List Nat := joinL 46 rows ++ tailL P B
def isNum (D : List Nat) : Prop := D ≠ [] ∧ ∀ c ∈ D, isDig c = true
def isTl (l : Nat) (P : Option (List Nat)) : Prop := ∀ p, P = some p → (∀ c ∈ p, isTail c = true) ∧ l ≤ p.length
section
variable {t : Array Nat} {P B : Option (List Nat)}
theorem num_stop {D r : List Nat} {c : Nat} (hc : isDig c = false) : ∀ d u, c :: (D ++ r) = d :: u → isDig d = false := fun d u h => by
  injection h with h _; rw [← h]; exact hc
theorem part_run1 {D0 : List Nat} (ht : t.toList = verL [D0] P B) (h0 : isNum D0) (hP : isTl 0 P) (hB : isTl 0 B) (hlim : t.size ≤ 4294967295) (hp : ∀ c ∈ t.toList, c < 128) :
    ∃ marks lm, Ev 400 (forMatch partC t 5 0 t.size false false) (Done 0 t.size marks lm) ∧ Groups t marks lm D0 none none P B := by
  have R : Rem t 0 (D0 ++ tailL P B) := ⟨ht, Nat.zero_le _⟩
  obtain ⟨E1, R1⟩ := part_first hlim hp R h0.1 h0.2 (fun c u h => (tail_head_ne c u h).1)
  have e0 := ext_rem R
  rw [Nat.zero_add] at e0
  refine ⟨_, _, ?_, tail_groups R1 (key1 D0.length P B) (bad_all (t := t) (key1 D0.length P B) (fun b e h => by cases h; omega) (fun b e h => by cases h) (fun b e h => by cases h)) (congrArg some e0) rfl rfl⟩
  refine (E1.bind (b := 3 + 300) fun m1 A1 => ?_).le (by decide)
  refine (A1.passDot (W' := 40) (l := { pc := 21, outer := none }) (by decide) rfl (by decide) rfl rfl rfl rfl rfl (by decide) rfl rfl R1 (fun c u h => (tail_head_ne c u h).2) (by show 20 + 1 + 10 ≤ 40; decide) (by decide)).bind (b := 300) fun m2 A2 => ?_
  exact tail_run A2 part_blocks.1 part_blocks.2 (by decide) rfl rfl rfl hlim hp R1 hP hB rfl (by decide)
theorem part_run2 {D0 D1 : List Nat} (ht : t.toList = verL [D0, D1] P B) (h0 : isNum D0) (h1 : isNum D1) (hP : isTl 0 P) (hB : isTl 0 B) (hlim : t.size ≤ 4294967295) (hp : ∀ c ∈ t.toList, c < 128) :
    ∃ marks lm, Ev 400 (forMatch partC t 5 0 t.size false false) (Done 0 t.size marks lm) ∧ Groups t marks lm D0 (some D1) none P B := by
  have R : Rem t 0 (D0 ++ (46 :: (D1 ++ tailL P B))) := ⟨by rw [List.drop_zero, ht]; simp [verL, joinL], Nat.zero_le _⟩
  obtain ⟨E1, R1⟩ := part_first hlim hp R h0.1 h0.2 (num_stop (by decide))
  have e0 := ext_rem R
  rw [Nat.zero_add] at e0
  have e1 := ext_rem R1.cons.2.2
  have R2 := R1.cons.2.2.app
  refine ⟨_, _, ?_, tail_groups R2 (key2 D0.length _ P B) (bad_all (t := t) (key2 D0.length _ P B) (fun b e h => by cases h; omega) (fun b e h => by cases h; omega) (fun b e h => by cases h)) (congrArg some e0) (congrArg some e1) rfl⟩
  refine (E1.bind (b := 6 + (4 + 300)) fun m1 A1 => ?_).le (by decide)
  refine (part_second hlim hp A1 R1 h1.1 h1.2 (fun c u h => (tail_head_ne c u h).1)).1.bind (b := 4 + 300) fun m2 A2 => ?_
  refine (part_skip2 A2 R2 (fun c u h => (tail_head_ne c u h).2)).bind (b := 300) fun m3 ⟨ls, A3⟩ => ?_
  exact tail_run A3 part_blocks.1 part_blocks.2 (by decide) rfl rfl rfl hlim hp R2 hP hB rfl (by decide)
theorem part_run3 {D0 D1 D2 : List Nat} (ht : t.toList = verL [D0, D1, D2] P B) (h0 : isNum D0) (h1 : isNum D1) (h2 : isNum D2) (hP : isTl 0 P) (hB : isTl 0 B) (hlim : t.size ≤ 4294967295) (hp : ∀ c ∈ t.toList, c < 128) :
    ∃ marks lm, Ev 400 (forMatch partC t 5 0 t.size false false) (Done 0 t.size marks lm) ∧ Groups t marks lm D0 (some D1) (some D2) P B := by
  have R : Rem t 0 (D0 ++ (46 :: (D1 ++ (46 :: (D2 ++ tailL P B))))) := ⟨by rw [List.drop_zero, ht]; simp [verL, joinL], Nat.zero_le _⟩
  obtain ⟨E1, R1⟩ := part_first hlim hp R h0.1 h0.2 (num_stop (by decide))
  have e0 := ext_rem R
  rw [Nat.zero_add] at e0
  have e1 := ext_rem R1.cons.2.2
  have R2 := R1.cons.2.2.app
  have e2 := ext_rem R2.cons.2.2
  have R3 := R2.cons.2.2.app
  refine ⟨_, _, ?_, tail_groups R3 (key3 D0.length _ _ P B) (bad_all (t := t) (key3 D0.length _ _ P B) (fun b e h => by cases h; omega) (fun b e h => by cases h; omega) (fun b e h => by cases h; omega)) (congrArg some e0) (congrArg some e1) (congrArg some e2)⟩
  refine (E1.bind (b := 6 + (7 + 300)) fun m1 A1 => ?_).le (by decide)
  refine (part_second hlim hp A1 R1 h1.1 h1.2 (num_stop (by decide))).1.bind (b := 7 + 300) fun m2 A2 => ?_
  refine (part_third hlim hp A2 R2 h2.1 h2.2 (fun c u h => (tail_head_ne c u h).1)).1.bind (b := 300) fun m3 ⟨ls, A3⟩ => ?_
  exact tail_run A3 part_blocks.1 part_blocks.2 (by decide) rfl rfl rfl hlim hp R3 hP hB rfl (by decide)
theorem full_run {D0 D1 D2 : List Nat} (ht : t.toList = verL [D0, D1, D2] P B) (h0 : isNum D0) (h1 : isNum D1) (h2 : isNum D2) (hP : isTl 1 P) (hB : isTl 1 B) (hlim : t.size ≤ 4294967295) (hp : ∀ c ∈ t.toList, c < 128) :
    ∃ marks lm, Ev 400 (forMatch fullC t 5 0 t.size false false) (Done 0 t.size marks lm) ∧ Groups t marks lm D0 (some D1) (some D2) P B := by
  have R : Rem t 0 (D0 ++ (46 :: (D1 ++ (46 :: (D2 ++ tailL P B))))) := ⟨by rw [List.drop_zero, ht]; simp [verL, joinL], Nat.zero_le _⟩
  have e0 := ext_rem R
  have R1 := R.app
  rw [Nat.zero_add] at e0 R1
  have e1 := ext_rem R1.cons.2.2
  have R2 := R1.cons.2.2.app
  have e2 := ext_rem R2.cons.2.2
  have R3 := R2.cons.2.2.app
  have l0 := List.length_pos_iff.mpr h0.1
  have l1 := List.length_pos_iff.mpr h1.1
  have l2 := List.length_pos_iff.mpr h2.1
  have hs : 5 ≤ t.size := by have := R3.le; omega
  refine ⟨_, _, ?_, tail_groups R3 (key3 D0.length _ _ P B) (bad_all (t := t) (key3 D0.length _ _ P B) (fun b e h => by cases h; omega) (fun b e h => by cases h; omega) (fun b e h => by cases h; omega)) (congrArg some e0) (congrArg some e1) (congrArg some e2)⟩
  rw [full_eq hs]
  have A0 : At fullC t t.size 0 5 0 (Array.replicate 10 none) (-1) #[] none 0 (St fullC t t.size 0 5 0 (Array.replicate 10 none) (-1) #[] none 0 0 true (-1) [] 0 (({} : Seen).add 14)) := At.mk' (fun f hf => nomatch hf) (Nat.le_refl _) (Nat.le_refl _)
  refine (Ev.bind (a := 1) (b := 11 + 300) (A0.begins (by decide) rfl rfl) fun m1 A1 => ?_).le (by decide)
  refine (A1.mark (i := 0) (by decide) rfl rfl).bind (b := 10 + 300) fun m2 A2 => ?_
  refine (A2.digR (W' := 15) (D := D0) ⟨by decide, rfl, rfl, rfl, rfl, rfl, rfl, rfl, rfl, by decide⟩ rfl hlim hp R h0.1 h0.2 (num_stop (by decide)) (by rw [size_marked]; decide) (by decide)).bind (b := 9 + 300) fun m3 A3 => ?_
  rw [Nat.zero_add] at A3
  refine (A3.mark (i := 1) (by decide) rfl rfl).bind (b := 8 + 300) fun m4 A4 => ?_
  rw [marks1] at A4
  refine (A4.lit (c := 46) (by decide) rfl rfl R1.cons.1 R1.cons.2.1).bind (b := 7 + 300) fun m5 A5 => ?_
  refine (A5.mark (i := 2) (by decide) rfl rfl).bind (b := 6 + 300) fun m6 A6 => ?_
  refine (A6.digR (W' := 30) (D := D1) ⟨by decide, rfl, rfl, rfl, rfl, rfl, rfl, rfl, rfl, by decide⟩ rfl hlim hp R1.cons.2.2 h1.1 h1.2 (num_stop (by decide)) (by rw [size_marked]; show 15 + 1 + 10 ≤ 30; decide) (by decide)).bind (b := 5 + 300) fun m7 A7 => ?_
  refine (A7.mark (i := 3) (by decide) rfl rfl).bind (b := 4 + 300) fun m8 A8 => ?_
  rw [show marked (marked (mk1 D0.length) (max (max (-1) ((0 : Nat) : Int)) ((1 : Nat) : Int)) 2 (D0.length + 1)) (max (max (max (-1) ((0 : Nat) : Int)) ((1 : Nat) : Int)) ((2 : Nat) : Int)) 3 (D0.length + 1 + D1.length) = mk2 D0.length (D0.length + 1 + D1.length) from rfl] at A8
  refine (A8.lit (c := 46) (by decide) rfl rfl R2.cons.1 R2.cons.2.1).bind (b := 3 + 300) fun m9 A9 => ?_
  refine (A9.mark (i := 4) (by decide) rfl rfl).bind (b := 2 + 300) fun m10 A10 => ?_
  refine (A10.digR (W' := 45) (D := D2) ⟨by decide, rfl, rfl, rfl, rfl, rfl, rfl, rfl, rfl, by decide⟩ rfl hlim hp R2.cons.2.2 h2.1 h2.2 (fun c u h => (tail_head_ne c u h).1) (by rw [size_marked]; show 30 + 1 + 10 ≤ 45; decide) (by decide)).bind (b := 1 + 300) fun m11 A11 => ?_
  refine (A11.mark (i := 5) (by decide) rfl rfl).bind (b := 300) fun m12 A12 => ?_
  exact tail_run A12 full_blocks.1 full_blocks.2 (by decide) rfl rfl rfl hlim hp R3 hP hB rfl (by decide)
end
end Mine
end
section
set_option maxRecDepth 100000
namespace Mine
open PySem PySem.Sre
def restC : Array Nat := #[14, 15, 4, 1, 1, 21, 9, 0, 67069952, 134217726, 134217726, 0, 0, 0, 0, 0, 13, 12, 21, 9, 0, 67069952, 134217726, 134217726, 0, 0, 0, 0, 0, 1]
theorem kept_bits : ∀ c, c < 128 → (if c / 32 = 0 then (0 : Nat) else if c / 32 = 1 then 67069952 else 134217726).testBit (c % 32) = isKept c := by decide +kernel
theorem inSet_neg {C : Array Nat} {i c k : Nat} (g0 : C.getD i 0 = 21) (h2 : C.getD (i + 1) 0 = 9) (h3 : C.getD (i + 2) 0 = 0) (h4 : C.getD (i + 3) 0 = 67069952) (h5 : C.getD (i + 4) 0 = 134217726) (h6 : C.getD (i + 5) 0 = 134217726) (h7 : C.getD (i + 10) 0 = 0) (hc : c < 128) (sn : Seen) : ∃ sn', inSet C c (k + 3) i true sn = .ok (!isKept c, sn') := by
  unfold inSet
  simp only [Nat.add_zero, g0, show ops[21]? = some Op.NEGATE from rfl]
  unfold inSet
  have e : C.getD (i + 1 + (1 + c / 32)) 0 = (if c / 32 = 0 then (0 : Nat) else if c / 32 = 1 then 67069952 else 134217726) := by
    have : c / 32 = 0 ∨ c / 32 = 1 ∨ c / 32 = 2 ∨ c / 32 = 3 := by omega
    rcases this with q | q | q | q <;> rw [q]
    · exact h3
    · exact h4
    · exact h5
    · exact h6
  simp only [Nat.add_zero, h2, show ops[9]? = some Op.CHARSET from rfl, e, kept_bits c hc, show (c < 256) = True from eq_true (by omega), decide_true, Bool.true_and]
  cases isKept c
  · show ∃ sn', inSet C c (k + 1) (i + 1 + 9) (!true) _ = _
    unfold inSet
    simp only [Nat.add_zero, show i + 1 + 9 = i + 10 from rfl, h7, show ops[0]? = some Op.FAILURE from rfl]
    exact ⟨_, rfl⟩
  · exact ⟨_, rfl⟩
theorem head5 {c : Nat} (hc : c < 128) (sn : Seen) : ∃ sn', inSet restC c restC.size 5 true sn = .ok (!isKept c, sn') := inSet_neg (k := 27) rfl rfl rfl rfl rfl rfl rfl hc sn
theorem head18 {c : Nat} (hc : c < 128) (sn : Seen) : ∃ sn', accepts restC 16 c sn = .ok (!isKept c, sn') := by
  unfold accepts
  exact inSet_neg (k := 27) (i := 18) rfl rfl rfl rfl rfl rfl rfl hc sn
section
variable {t : Array Nat}
theorem admitted_hit {m : M} (hm : m.code = restC ∧ m.text = t ∧ m.lim = t.size) {c : Nat} {r : List Nat} (hp : ∀ c ∈ t.toList, c < 128) (hc : isKept c = false) : ∀ {u : List Nat} {k : Nat} (f : Nat) (sn : Seen), Rem t k (u ++ c :: r) → (∀ d ∈ u, isKept d = true) → u.length < f → ∃ sn', M.admitted m f k sn = .ok (some (k + u.length), sn')
  | u, k, 0, sn, _, _, h => absurd h (Nat.not_lt_zero _)
  | [], k, f + 1, sn, R, _, _ => by
    obtain ⟨a, b, _⟩ := (show Rem t k (c :: r) from R).cons
    have hm128 : c < 128 := hp c (by
      have := List.mem_of_mem_drop (l := t.toList) (i := k) (a := c) (by rw [R.drop]; exact .head _)
      exact this)
    obtain ⟨sn', e⟩ := head5 hm128 sn
    unfold M.admitted
    rw [hm.1, hm.2.1, hm.2.2, if_neg (by omega), b, e, hc]
    exact ⟨_, rfl⟩
  | d :: u, k, f + 1, sn, R, hu, hf => by
    obtain ⟨a, b, R'⟩ := (show Rem t k (d :: (u ++ c :: r)) from R).cons
    have hm128 : d < 128 := hp d (by
      have := List.mem_of_mem_drop (l := t.toList) (i := k) (a := d) (by rw [R.drop]; exact .head _)
      exact this)
    obtain ⟨sn', e⟩ := head5 hm128 sn
    obtain ⟨sn2, e2⟩ := admitted_hit hm hp hc f sn' R' (fun x hx => hu x (.tail _ hx)) (by simpa using hf)
    unfold M.admitted
    rw [hm.1, hm.2.1, hm.2.2, if_neg (by omega), b, e, hu d (.head _)]
    refine ⟨sn2, ?_⟩
    show M.admitted m f (k + 1) sn' = _
    rw [e2, List.length_cons, show k + 1 + u.length = k + (u.length + 1) by omega]
theorem admitted_miss {m : M} (hm : m.code = restC ∧ m.text = t ∧ m.lim = t.size) (hp : ∀ c ∈ t.toList, c < 128) : ∀ {u : List Nat} {k : Nat} (f : Nat) (sn : Seen), Rem t k u → (∀ d ∈ u, isKept d = true) → ∃ sn', M.admitted m f k sn = .ok (none, sn')
  | u, k, 0, sn, _, _ => ⟨sn, rfl⟩
  | [], k, f + 1, sn, R, _ => by
    have := R.nil
    unfold M.admitted
    rw [hm.2.2, if_pos (by omega)]
    exact ⟨_, rfl⟩
  | d :: u, k, f + 1, sn, R, hu => by
    obtain ⟨a, b, R'⟩ := R.cons
    have hm128 : d < 128 := hp d (by
      have := List.mem_of_mem_drop (l := t.toList) (i := k) (a := d) (by rw [R.drop]; exact .head _)
      exact this)
    obtain ⟨sn', e⟩ := head5 hm128 sn
    obtain ⟨sn2, e2⟩ := admitted_miss hm hp f sn' R' (fun x hx => hu x (.tail _ hx))
    unfold M.admitted
    rw [hm.1, hm.2.1, hm.2.2, if_neg (by omega), b, e, hu d (.head _)]
    exact ⟨sn2, e2⟩
def M0 (t : Array Nat) (k : Nat) (sn : Seen) : M := St restC t t.size k 16 k #[] (-1) #[] none t.size k true (-1) [] 0 sn
theorem fs_eq {k : Nat} (hk : ¬ (decide (k > t.size) || decide (t.size - k < 1)) = true) : forSearch restC t 0 k t.size false = M.attemptFrom (M0 t k (({} : Seen).add 14)) k true := by
  unfold forSearch
  exact if_neg hk
theorem fs_no {k : Nat} (hk : (decide (k > t.size) || decide (t.size - k < 1)) = true) : ∃ m : M, forSearch restC t 0 k t.size false = m ∧ m.answer = some false ∧ m.frames = [] ∧ m.outcome = none := by
  unfold forSearch
  exact ⟨_, if_pos hk, rfl, rfl, rfl⟩
theorem af_some {k s : Nat} {sn sn' : Seen} (h : M.admitted (M0 t k sn) (t.size + 1 - k) k sn = .ok (some s, sn')) : M.attemptFrom (M0 t k sn) k true = M.attemptAt (M0 t k sn') s true := by
  unfold M.attemptFrom
  rw [if_neg (show ¬ ((!(M0 t k sn).hasFirstSet) = true) from fun h => absurd (show (!true) = true from h) (by decide))]
  show (match M.admitted (M0 t k sn) (t.size + 1 - k) k sn with | .ok (some s, seen) => _ | .ok (none, seen) => _ | .error why => _) = _
  rw [h]
  rfl
theorem af_none {k : Nat} {sn sn' : Seen} (h : M.admitted (M0 t k sn) (t.size + 1 - k) k sn = .ok (none, sn')) : M.attemptFrom (M0 t k sn) k true = M.say (M0 t k sn') false := by
  unfold M.attemptFrom
  rw [if_neg (show ¬ ((!(M0 t k sn).hasFirstSet) = true) from fun h => absurd (show (!true) = true from h) (by decide))]
  show (match M.admitted (M0 t k sn) (t.size + 1 - k) k sn with | .ok (some s, seen) => _ | .ok (none, seen) => _ | .error why => _) = _
  rw [h]
  rfl
theorem search_hit {k c : Nat} {u r : List Nat} (hp : ∀ c ∈ t.toList, c < 128) (R : Rem t k (u ++ c :: r)) (hu : ∀ d ∈ u, isKept d = true) (hc : isKept c = false) : Ev 20 (forSearch restC t 0 k t.size false) (Done (k + u.length) (k + u.length + 1) #[] (-1)) := by
  have Rc := R.app.cons
  have hk : ¬ (k > t.size ∨ t.size - k < 1) := by have := Rc.1; omega
  have e1 : ∃ sn, forSearch restC t 0 k t.size false = M.attempt (St restC t t.size (k + u.length) 16 (k + u.length) #[] (-1) #[] none t.size k true (-1) [] 0 sn) { wait := .nextStart, pc := 16, pos := k + u.length, outermost := true } 16 (k + u.length) true := by
    obtain ⟨sn, ea⟩ := admitted_hit (t := t) (m := M0 t k (({} : Seen).add 14)) ⟨rfl, rfl, rfl⟩ hp hc (t.size + 1 - k) (({} : Seen).add 14) R hu (by
      have := R.app.le; have := Rc.1; omega)
    refine ⟨sn, ?_⟩
    rw [fs_eq (by rw [Bool.or_eq_true, decide_eq_true_eq, decide_eq_true_eq]; exact hk), af_some ea]
    rfl
  obtain ⟨sn, e1⟩ := e1
  rw [e1, St.attempt (show 0 + 1 + 0 ≤ 16777216 by decide)]
  have A : At restC t t.size (k + u.length) 16 (k + u.length) #[] (-1) #[] none 1 (St restC t t.size (k + u.length) 16 (k + u.length) #[] (-1) #[] none t.size (k + u.length) true (-1) [{ wait := .nextStart, pc := 16, pos := k + u.length, outermost := true }] (0 + 1 + 0) sn) :=
    At.mk' (fun f hf => by rw [List.mem_singleton.mp hf]; rfl) (by decide) (Nat.le_refl 1)
  have hm128 : c < 128 := hp c (by
    have := List.mem_of_mem_drop (l := t.toList) (i := k + u.length) (a := c) (by rw [R.app.drop]; exact .head _)
    exact this)
  have s1 : Ev 1 (St restC t t.size (k + u.length) 16 (k + u.length) #[] (-1) #[] none t.size (k + u.length) true (-1) [{ wait := .nextStart, pc := 16, pos := k + u.length, outermost := true }] (0 + 1 + 0) sn) (At restC t t.size (k + u.length) 29 (k + u.length + 1) #[] (-1) #[] none 1) := by
    refine A.one (by decide) ?_
    obtain ⟨sn', ea⟩ := head18 hm128 (sn.add 13)
    rw [hc] at ea
    have : (St restC t t.size (k + u.length) 16 (k + u.length) #[] (-1) #[] none t.size (k + u.length) true (-1) [{ wait := .nextStart, pc := 16, pos := k + u.length, outermost := true }] (0 + 1 + 0) sn).exec = St restC t t.size (k + u.length) 29 (k + u.length + 1) #[] (-1) #[] none t.size (k + u.length) true (-1) [{ wait := .nextStart, pc := 16, pos := k + u.length, outermost := true }] (0 + 1 + 0) sn' := by
      unfold M.exec
      simp only [M.word, Nat.add_zero, show restC.getD 16 0 = 13 from rfl, show ops[13]? = some Op.IN from rfl, ge_iff_le, if_neg (show ¬ t.size ≤ k + u.length by have := Rc.1; omega), Rc.2.1, ea]
      rfl
    rw [this]
    exact At.mk' (fun f hf => by rw [List.mem_singleton.mp hf]; rfl) (by decide) (Nat.le_refl 1)
  exact (s1.bind (b := 19) fun m1 A1 => (A1.finish (by decide) rfl).le (by decide))
theorem search_miss {k : Nat} {u : List Nat} (hp : ∀ c ∈ t.toList, c < 128) (R : Rem t k u) (hu : ∀ d ∈ u, isKept d = true) : ∃ n, n ≤ 5 ∧ (M.runFor n (forSearch restC t 0 k t.size false)).outcome = some .failed := by
  refine ⟨1, by decide, ?_⟩
  have e1 : ∃ m : M, forSearch restC t 0 k t.size false = m ∧ m.answer = some false ∧ m.frames = [] ∧ m.outcome = none := by
    by_cases hk : (decide (k > t.size) || decide (t.size - k < 1)) = true
    · exact fs_no hk
    · obtain ⟨sn, ea⟩ := admitted_miss (t := t) (m := M0 t k (({} : Seen).add 14)) ⟨rfl, rfl, rfl⟩ hp (t.size + 1 - k) (({} : Seen).add 14) R hu
      exact ⟨_, (fs_eq hk).trans (af_none ea), rfl, rfl, rfl⟩
  obtain ⟨m, e, h1, h2, h3⟩ := e1
  rw [e, runFor_succ, if_neg (by rw [h3]; decide)]
  show (M.step m).outcome = _
  unfold M.step
  rw [h3, h1, h2]
  rfl
end
end Mine
end
section
set_option maxRecDepth 100000
namespace Mine
open PySem PySem.Sre PySem.Builtin.Re PySem.W PyProof.Rows PySem.Calls
theorem plain_sub_loop : plainId "re.Pattern.sub.loop" = true := by decide +kernel
theorem entry_sub_loop : entryFor table "re.Pattern.sub.loop" = some Builtin.«re.Pattern.sub.loop» := entryFor_of_tree (by kernel_rfl)
def hy (c : Nat) : Nat := if isKept c then c else 45
theorem hy_kept {c : Nat} (h : isKept c = true) : hy c = c := by unfold hy; rw [if_pos h]
theorem map_hy {u : List Nat} (h : ∀ d ∈ u, isKept d = true) : u.map hy = u := by
  induction u with
  | nil => rfl
  | cons a r ih => rw [List.map_cons, hy_kept (h a (.head _)), ih fun d hd => h d (.tail _ hd)]
theorem tx_join_nil : ∀ ts : List Str, tx (Str.join (⟨#[]⟩ : Str) ts) = (ts.map tx).flatten
  | [] => rfl
  | [x] => by simp [Str.join]
  | x :: z :: r => by
    have ih := tx_join_nil (z :: r)
    show tx (x ++ ⟨#[]⟩ ++ Str.join ⟨#[]⟩ (z :: r)) = _
    rw [tx_append, tx_append, ih]
    simp [tx]
theorem first_bad (l : List Nat) : (∀ d ∈ l, isKept d = true) ∨ ∃ u c r, l = u ++ c :: r ∧ (∀ d ∈ u, isKept d = true) ∧ isKept c = false := by
  induction l with
  | nil => exact .inl fun _ h => nomatch h
  | cons a r ih =>
    cases ha : isKept a with
    | false => exact .inr ⟨[], a, r, rfl, fun _ h => (nomatch h), ha⟩
    | true =>
      rcases ih with h | ⟨u, c, r', e, hu, hc⟩
      · exact .inl fun d hd => by rcases List.mem_cons.mp hd with rfl | h'; exact ha; exact h d h'
      · exact .inr ⟨a :: u, c, r', by rw [e]; rfl, fun d hd => by rcases List.mem_cons.mp hd with rfl | h'; exact ha; exact hu d h', hc⟩
theorem ext_rem' {t : Array Nat} {b : Nat} {p r : List Nat} (R : Rem t b (p ++ r)) : (t.extract b (b + p.length)).toList = p := by
  rw [Array.toList_extract, List.extract_eq_drop_take, R.drop, Nat.add_sub_cancel_left, List.take_left]
section
variable {prog : Program} {w : World} {A : Around} {E : Value → Shared → Prop} {s : Shared}
theorem wpAny_wholeTarget {p : Addr} {C : Array Nat} {g : Nat} {x : Str} {t : Tok} {Q : ReTarget → Shared → Prop} (P : Pat s.heap p C g)
    (h : Q { pattern := .ref p, string := .str x t, code := C, text := x.cps, kind := 0, groups := g, pos := 0, lim := x.cps.size } s) : wpAny (model prog w) A (reWholeTarget (.ref p) (.str x t)) Q E s := by
  obtain ⟨o, fs, ca, oc, items, k, ho, hcls, hd, h6, h5, hg, hoc, hdc, hC⟩ := P.pat
  unfold reWholeTarget
  refine wpAny_bind (wpAny_fieldsOf ho hd ?_)
  rw [textOf_str]
  refine wpAny_bind (wpAny_pure ?_)
  (try dsimp only)
  rw [h6, h5, hg]
  refine wpAny_bind (wpAny_pure ?_)
  refine wpAny_bind (wpAny_rawItems hoc hdc ?_)
  refine wpAny_pure ?_
  rw [hC]
  exact h
theorem Pat.keeps {h h' : Heap} {p : Addr} {C : Array Nat} {g : Nat} (P : Pat h p C g) (hk : ∀ b o, h.get? b = some o → h'.get? b = some o) : Pat h' p C g := by
  obtain ⟨o, fs, ca, oc, its, k, ho, hcls, hd, h6, h5, hg, hoc, hdc, hC⟩ := P.pat
  exact ⟨o, fs, ca, oc, its, k, hk _ _ ho, hcls, hd, h6, h5, hg, hk _ _ hoc, hdc, hC⟩
theorem push_list {h : Heap} {l : Addr} {items : Array Value} {n : Nat} (v : Value) (hl : h.get? l = some (listOf items n)) : ∃ n', (h.update l (Obj.mapSeq (·.push v))).get? l = some (listOf (items.push v) n') :=
  ⟨_, PySem.IsL.update hl (·.push v)⟩
theorem update_other {h : Heap} {l : Addr} {f : Obj → Obj} {h0 : Heap} (hn : h0.get? l = none) (hk : ∀ b o, h0.get? b = some o → h.get? b = some o) : ∀ b o, h0.get? b = some o → (h.update l f).get? b = some o := fun b o e => by
  rw [Heap.get?_update_ne _ _ _ _ (fun q => by rw [q, hn] at e; cases e)]
  exact hk b o e
theorem slice_str {x : Str} {b e : Nat} {Q : Value → Shared → Prop} (hx : x.length ≤ 1000) (h : Q (.str ⟨x.cps.extract b e⟩ s.toks) { s with toks := s.toks + 1 }) : wpAny (model prog w) A (reSlice x.cps 0 b e) Q E s := by
  unfold reSlice
  refine wpAny_ite_true rfl ?_
  refine wpAny_mkStr h ?_
  have hs : (x.cps.extract b e).size ≤ 1000 := by
    rw [Array.size_extract]
    have : x.cps.size ≤ 1000 := hx
    omega
  exact Nat.le_trans hs (by decide)
theorem sub_loop {p l : Addr} {x : Str} {t u : Tok} {R : Result → Shared → Prop} {h0 : Heap} (P0 : Pat h0 p restC 0) (hl0 : h0.get? l = none) (hx : x.length ≤ 1000) (hp : ∀ c ∈ x.cps.toList, c < 128) :
    ∀ (n k : Nat) (cnt : Int) (qs : List (Str × Tok)) (nl : Nat) (s : Shared), x.cps.size - k = n → k ≤ x.cps.size → (∀ b o, h0.get? b = some o → s.heap.get? b = some o) → s.heap.get? l = some (listOf (strValues qs).toArray nl) →
      (qs.map fun q => tx q.1).flatten = ((tx x).take k).map hy → (∀ q ∈ qs, q.1.length ≤ 1000) → qs.length ≤ 2 * k →
      (∀ y tk h' tk', tx y = (tx x).map hy → (∀ b o, h0.get? b = some o → h'.get? b = some o) → R (.ok (.ret (.str y tk))) { s with heap := h', toks := tk' }) →
      codeAny (model prog w) A (.builtin "re.Pattern.sub.loop" ⟨[.ref p, .str x t, .str ⟨#[45]⟩ u, rawInt 0, rawInt 0, rawInt cnt, rawInt k, rawInt k, .bool false, .ref l, .bool false], []⟩) R s := by
  intro n
  induction n using Nat.strongRecOn with
  | _ n ih =>
    intro k cnt qs nl s hn hk hkeep hl hq hqs hlen hR
    have hxs : x.cps.size ≤ 1000 := hx
    have szL : (strValues qs).toArray.size ≤ 2000 := by rw [List.size_toArray]; show (qs.map _).length ≤ _; rw [List.length_map]; omega
    have Rk : Rem x.cps k (x.cps.toList.drop k) := ⟨rfl, hk⟩
    refine codeAny_builtin entry_sub_loop ?_
    rw [Around.under_plainId plain_sub_loop]
    unfold Builtin.«re.Pattern.sub.loop»
    refine wpAny_bind (wpAny_wholeTarget (P0.keeps hkeep) ?_)
    dsimp only
    refine wpAny_ite_true rfl ?_
    refine wpAny_bind (wpAny_pure ?_)
    refine wpAny_bind ?_
    refine wpAny_ite_false rfl ?_
    unfold reNextFound
    dsimp only
    rw [show ((k : Nat) : Int).toNat = k from Int.toNat_natCast k]
    rcases first_bad (x.cps.toList.drop k) with hall | ⟨v, c, r, hv, hvk, hck⟩
    · obtain ⟨m, hm, hf⟩ := search_miss hp Rk hall
      refine wpAny_reRunToEnd (n := m) (by omega) (.inr ⟨hf, rfl⟩) ?_
      dsimp only
      have hfull : ∀ y : List Nat, y = ((tx x).take k).map hy ++ (x.cps.toList.drop k) → y = (tx x).map hy := fun y e => by
        rw [e]
        conv => rhs; rw [← List.take_append_drop k (tx x), List.map_append]
        rw [show List.drop k (tx x) = x.cps.toList.drop k from rfl, map_hy hall]
      have ext0 : (⟨x.cps.extract 0 0⟩ : Str) = ⟨#[]⟩ := by simp
      have tail : ∀ (qs' : List (Str × Tok)) (nl' : Nat) (s' : Shared), (∃ h' tk', s' = { s with heap := h', toks := tk' }) → (∀ b o, h0.get? b = some o → s'.heap.get? b = some o) → s'.heap.get? l = some (listOf (strValues qs').toArray nl') → (qs'.map fun q => tx q.1).flatten = (tx x).map hy → (∀ q ∈ qs', q.1.length ≤ 1000) → qs'.length ≤ 2001 →
          wpAny (model prog w) A.in1 (do
            let joiner ← reSlice x.cps 0 0 0
            let a ← seqItems? (Value.ref l)
            if (a.getD #[]).isEmpty = true then do
                let text ← pure joiner
                if false = true then do
                    let b ← holding [text] do
                          let c ← mkInt cnt
                          newTuple [text, c]
                    ret b
                  else ret text
              else do
                let text ← call (Value.builtin (if (0 == 0) = true then "str.join" else "bytes.join")) [joiner, Value.ref l]
                if false = true then do
                    let b ← holding [text] do
                          let c ← mkInt cnt
                          newTuple [text, c]
                    ret b
                  else ret text) (fun fin s' => match fin with | .done f => R (.ok f) s' | .again c' => c'.quiet = true ∧ codeAny (model prog w) A c' R s') (fun e s' => R (.error e) s') s' := by
        rintro qs' nl' s' ⟨h', tk', rfl⟩ hkeep' hl' hq' hqs' hlen'
        refine wpAny_bind (slice_str hx ?_)
        refine wpAny_bind (wpAny_seqItems hl' rfl ?_)
        cases qs' with
        | nil =>
          refine wpAny_ite_true rfl ?_
          refine wpAny_bind (wpAny_pure ?_)
          refine wpAny_ite_false rfl ?_
          refine wpAny_pure ?_
          refine hR _ _ _ _ ?_ hkeep'
          rw [ext0, ← hq']; rfl
        | cons q1 qr =>
          refine wpAny_ite_false rfl ?_
          refine wpAny_bind ?_
          refine show wpAny _ _ (call (.builtin "str.join") [_, _]) _ _ _ from ?_
          refine SC.join (isListOf (h₀ := h0) (L := l) (p := True) (q := True) ⟨hl', trivial, trivial⟩) rfl (joinOk_of (b := 1000) (fun z hz => by obtain ⟨q, hq, rfl⟩ := List.mem_map.mp hz; exact hqs' q hq) ?_) ?_
          · rw [List.length_map]
            have : (⟨x.cps.extract 0 0⟩ : Str).length = 0 := by rw [ext0]; rfl
            rw [this]; omega
          · intro t' k'
            refine wpAny_ite_false rfl ?_
            refine wpAny_pure ?_
            refine hR _ _ _ _ ?_ hkeep'
            rw [Txt.join, StrLaws.glued_eq_join, ext0, tx_join_nil, List.map_map]
            exact hq'
      by_cases hks : k < x.cps.size
      · refine wpAny_ite_true (decide_eq_true hks) ?_
        refine wpAny_bind (slice_str hx ?_)
        obtain ⟨n', hl2⟩ := push_list (.str ⟨x.cps.extract k x.cps.size⟩ s.toks) hl
        refine wpAny_bind (wpAny_updateSeq hl rfl ?_ (Nat.le_trans szL (by decide)) (by rw [Array.size_push]; exact Nat.le_trans (Nat.succ_le_succ szL) (by decide)))
        refine tail (qs ++ [(⟨x.cps.extract k x.cps.size⟩, s.toks)]) n' _ ⟨_, _, rfl⟩ (update_other hl0 hkeep) ?_ ?_ ?_ ?_
        · rw [hl2]
          simp [strValues]
        · rw [List.map_append, List.flatten_append, hq]
          refine hfull _ ?_
          congr 1
          show [(x.cps.extract k x.cps.size).toList].flatten = _
          rw [Array.toList_extract, List.extract_eq_drop_take, List.take_of_length_le (by rw [List.length_drop, Array.length_toList]; exact Nat.le_refl _)]
          simp
        · intro q hq'
          rcases List.mem_append.mp hq' with h | h
          · exact hqs q h
          · rw [List.mem_singleton.mp h]
            show (x.cps.extract k x.cps.size).size ≤ 1000
            rw [Array.size_extract]; omega
        · rw [List.length_append]; show _ + 1 ≤ _; omega
      · refine wpAny_ite_false (decide_eq_false hks) ?_
        refine tail qs nl s ⟨_, _, rfl⟩ hkeep hl ?_ hqs (by omega)
        rw [hq]
        refine hfull _ ?_
        rw [List.drop_of_length_le (by rw [Array.length_toList]; omega), List.append_nil]
    · rw [hv] at Rk
      obtain ⟨m, hm, D⟩ := search_hit hp Rk hvk hck
      refine wpAny_reRunToEnd (n := m) (by omega) (.inl ⟨D.outcome, rfl⟩) ?_
      generalize M.runFor m _ = mf at D
      dsimp only
      rw [D.start, D.handed]
      have Rc := Rk.app.cons
      have hkv : k + v.length < x.cps.size := Rc.1
      have hne : (k + v.length + 1 == k + v.length) = false := by simp
      rw [hne]
      have htake : ((tx x).take (k + v.length)).map hy = ((tx x).take k).map hy ++ v := by
        rw [List.take_add, List.map_append]
        congr 1
        rw [show List.drop k (tx x) = x.cps.toList.drop k from rfl, hv, List.take_left]
        exact map_hy hvk
      have hc1 : ((tx x).take (k + v.length + 1)).map hy = ((tx x).take (k + v.length)).map hy ++ [45] := by
        rw [List.take_add, List.map_append]
        congr 1
        rw [show List.drop (k + v.length) (tx x) = x.cps.toList.drop (k + v.length) from rfl, Rk.app.drop]
        show [hy c] = [45]
        unfold hy
        rw [hck]; rfl
      have fin : ∀ (qs' : List (Str × Tok)) (nl' : Nat) (s' : Shared), (∃ h' tk', s' = { s with heap := h', toks := tk' }) → (∀ b o, h0.get? b = some o → s'.heap.get? b = some o) → s'.heap.get? l = some (listOf (strValues (qs' ++ [(⟨#[45]⟩, u)])).toArray nl') →
          (qs'.map fun q => tx q.1).flatten = ((tx x).take (k + v.length)).map hy → (∀ q ∈ qs', q.1.length ≤ 1000) → qs'.length ≤ 2 * k + 1 →
          codeAny (model prog w) A (.builtin "re.Pattern.sub.loop" ⟨[.ref p, .str x t, .str ⟨#[45]⟩ u, rawInt 0, rawInt 0, rawInt (cnt + 1), rawInt ↑(k + v.length + 1), rawInt ↑(k + v.length + 1), .bool false, .ref l, .bool false], []⟩) R s' := by
        rintro qs' nl' s' ⟨h', tk', rfl⟩ hkeep' hl' hq' hqs' hlen'
        refine ih (x.cps.size - (k + v.length + 1)) (by omega) (k + v.length + 1) (cnt + 1) (qs' ++ [(⟨#[45]⟩, u)]) nl' _ rfl (by omega) hkeep' hl' ?_ ?_ ?_ ?_
        · rw [List.map_append, List.flatten_append, hq', hc1]; rfl
        · intro q hq2
          rcases List.mem_append.mp hq2 with h | h
          · exact hqs' q h
          · rw [List.mem_singleton.mp h]; show 1 ≤ 1000; decide
        · rw [List.length_append]; show _ + 1 ≤ _; omega
        · intro y tk h2 tk2 e1 e2
          exact hR y tk h2 tk2 e1 e2
      by_cases hks : k < k + v.length
      · refine wpAny_ite_true (decide_eq_true hks) ?_
        refine wpAny_bind (slice_str hx ?_)
        obtain ⟨n', hl2⟩ := push_list (.str ⟨x.cps.extract k (k + v.length)⟩ s.toks) hl
        refine wpAny_bind (wpAny_updateSeq hl rfl ?_ (Nat.le_trans szL (by decide)) (by rw [Array.size_push]; exact Nat.le_trans (Nat.succ_le_succ szL) (by decide)))
        refine wpAny_ite_true rfl ?_
        refine wpAny_bind (wpAny_pure ?_)
        refine wpAny_ite_true rfl ?_
        obtain ⟨n2, hl3⟩ := push_list (.str ⟨#[45]⟩ u) hl2
        refine wpAny_bind (wpAny_updateSeq hl2 rfl ?_ (by rw [Array.size_push]; exact Nat.le_trans (Nat.succ_le_succ szL) (by decide)) (by rw [Array.size_push, Array.size_push]; exact Nat.le_trans (Nat.succ_le_succ (Nat.succ_le_succ szL)) (by decide)))
        refine wpAny_pure ⟨plainId_quiet plain_sub_loop _, ?_⟩
        refine fin (qs ++ [(⟨x.cps.extract k (k + v.length)⟩, s.toks)]) n2 _ ⟨_, _, rfl⟩ (update_other hl0 (update_other hl0 hkeep)) ?_ ?_ ?_ ?_
        · rw [hl3]
          simp [strValues]
        · rw [List.map_append, List.flatten_append, hq, htake]
          congr 1
          show [(x.cps.extract k (k + v.length)).toList].flatten = _
          rw [ext_rem' Rk]
          simp
        · intro q hq'
          rcases List.mem_append.mp hq' with h | h
          · exact hqs q h
          · rw [List.mem_singleton.mp h]
            show (x.cps.extract k (k + v.length)).size ≤ 1000
            rw [Array.size_extract]; omega
        · rw [List.length_append]; show _ + 1 ≤ _; omega
      · have hv0 : v = [] := List.length_eq_zero_iff.mp (by omega)
        refine wpAny_ite_false (decide_eq_false hks) ?_
        refine wpAny_ite_true rfl ?_
        refine wpAny_bind (wpAny_pure ?_)
        refine wpAny_ite_true rfl ?_
        obtain ⟨n2, hl3⟩ := push_list (.str ⟨#[45]⟩ u) hl
        refine wpAny_bind (wpAny_updateSeq hl rfl ?_ (Nat.le_trans szL (by decide)) (by rw [Array.size_push]; exact Nat.le_trans (Nat.succ_le_succ szL) (by decide)))
        refine wpAny_pure ⟨plainId_quiet plain_sub_loop _, ?_⟩
        refine fin qs n2 _ ⟨_, _, rfl⟩ (update_other hl0 hkeep) ?_ ?_ hqs (by omega)
        · rw [hl3]
          simp [strValues]
        · rw [hq, htake, hv0, List.append_nil]
end
end Mine
end
section
set_option maxRecDepth 100000
namespace Mine
open PySem PySem.Sre PySem.Builtin.Re PySem.W PyProof.Rows PySem.Calls
theorem slot_re_sub : Slot "re.Pattern" "sub" "re.Pattern.sub" :=
  .of (owner := "re.Pattern") (n := "sub") (by rw [typeLookup_type, builtinLookup_eq_fast]; kernel_rfl) (by decide +kernel) (by decide +kernel) (by decide +kernel)
    (by first | exact .inl (by decide +kernel) | exact .inr (by decide +kernel)) (by rw [isSubtype_type]; kernel_rfl)
theorem type_re_sub : typeOf (.builtin "re.Pattern.sub") = pure (.type "method_descriptor") := by show builtinType _ = _; rw [builtinType_eq_fast]; kernel_rfl
theorem entry_re_sub : entryFor table "re.Pattern.sub" = some Builtin.«re.Pattern.sub» := entryFor_of_tree (by kernel_rfl)
theorem args_re_sub (a b c : Value) : argsOk "re.Pattern.sub" ⟨[a, b, c], []⟩ := by unfold argsOk; kernel_rfl
theorem named_sub (id : String) (a b : Value) : reNamed id "sub" ["repl", "string", "count"] 2 [a, b] [] = pure [some a, some b, none] := by kernel_rfl
theorem noCall_str : typeLookup (.type "str") (Str.ofString "__call__") = pure none := by rw [typeLookup_type, builtinLookup_eq_fast]; kernel_rfl
section
variable {prog : Program} {w : World} {A : Around} {E : Value → Shared → Prop} {s : Shared}
theorem getMethod_sub {p : Addr} {C : Array Nat} {g : Nat} {pl : Sem Bool} {Q : Value × List Value → Shared → Prop} (P : Pat s.heap p C g) (hdict : ∀ o, s.heap.get? p = some o → o.dict = none) (h : Q (.builtin "re.Pattern.sub", [.ref p]) s) : wpAny (model prog w) A (getMethod (.ref p) (Str.ofString "sub") pl) Q E s := by
  obtain ⟨o, fs, ca, oc, items, k, ho, hcls, _⟩ := P.pat
  exact getMethod_builtin ⟨o, ho, hcls⟩ plainAttrs_rePattern slot_re_sub type_re_sub (fun a e => by cases e; exact ⟨_, ho, hdict o ho⟩) h
theorem call_sub {p : Addr} {x : Str} {t u : Tok} {Q : Value → Shared → Prop} (P : Pat s.heap p restC 0) (hx : x.length ≤ 1000) (hp : ∀ c ∈ x.cps.toList, c < 128)
    (h : ∀ y tk h' tk', tx y = (tx x).map hy → (∀ b o, s.heap.get? b = some o → h'.get? b = some o) → Q (.str y tk) { s with heap := h', toks := tk' }) :
    wpAny (model prog w) A (call (.builtin "re.Pattern.sub") [.ref p, .str ⟨#[45]⟩ u, .str x t]) Q E s := by
  have P0 := P
  obtain ⟨o, fs, ca, oc, items, k, ho, hcls, _⟩ := P.pat
  refine wpAny_call (codeAny_call_builtin slot_re_sub.plain entry_re_sub (slot_re_sub.check _ _ _ _ _ _ _ _ ⟨o, ho, hcls⟩ (args_re_sub _ _ _) ?_))
  unfold Builtin.«re.Pattern.sub» reSubstitute
  dsimp only
  rw [named_sub]
  refine wpAny_bind (wpAny_pure ?_)
  dsimp only
  refine wpAny_bind (wpAny_pure ?_)
  refine wpAny_bind (wpAny_specialOf (typeIs_str _ _ _) noCall_str ?_)
  refine wpAny_bind ?_
  refine wpAny_pure ?_
  dsimp only
  refine wpAny_bind (wpAny_pure ?_)
  refine wpAny_ite_false rfl ?_
  refine wpAny_ite_true (by decide +kernel) ?_
  refine wpAny_bind (wpAny_pure ?_)
  dsimp only
  refine wpAny_bind (wpAny_holding (wpAny_wholeTarget P0 ?_))
  refine wpAny_ite_false rfl ?_
  refine wpAny_bind (wpAny_newList ?_ (Nat.zero_le _))
  refine wpAny_pure ⟨plainId_quiet plain_sub_loop _, ?_⟩
  have keep : ∀ b o, s.heap.get? b = some o → (s.heap.push (listOf #[] 0)).get? b = some o := fun b o e => Heap.get?_push_of_some _ e
  refine sub_loop (h0 := s.heap) P0 (Heap.get?_none_of_le (Nat.le_refl _)) hx hp _ 0 0 [] 0 _ rfl (Nat.zero_le _) keep (Heap.get?_push_size _ rfl) rfl (fun _ h => nomatch h) (Nat.zero_le _) ?_
  intro y tk h' tk' e1 e2
  exact h y tk h' tk' e1 e2
end
end Mine
end
section
set_option maxRecDepth 100000
namespace Mine
open PySem PySem.W PyProof.Rows PySem.Calls PySem.Builtin PySem.Builtin.Str
def fieldsOf' (o : Obj) : Array Value := match o.data with | .fields f => f | _ => #[]
def seqOf' (o : Obj) : Array Value := match o.data with | .seq f _ => f | _ => #[]
def seqN' (o : Obj) : Nat := match o.data with | .seq _ n => n | _ => 0
section
variable {w : World} {loose : List Str} {mg mb : Str → Option Value} {mean : ExcName → Option Value} {A : Around} {s : Shared} {h : Heap}
theorem pat_part (X : (KK w.params).In h) : Pat h 48 partC 5 :=
  ⟨⟨oAt w.params 26, fieldsOf' (oAt w.params 26), 47, oAt w.params 25, seqOf' (oAt w.params 25), seqN' (oAt w.params 25), X 48 _ (by kernel_rfl), by kernel_rfl, by kernel_rfl, by kernel_rfl, by kernel_rfl, by kernel_rfl, X 47 _ (by kernel_rfl), by kernel_rfl, by kernel_rfl⟩⟩
theorem dict_part (X : (KK w.params).In h) : ∀ o, h.get? 48 = some o → o.dict = none := fun o e => by rw [X 48 (oAt w.params 26) (by kernel_rfl)] at e; cases e; kernel_rfl
theorem pat_full (X : (KK w.params).In h) : Pat h 43 fullC 5 :=
  ⟨⟨oAt w.params 24, fieldsOf' (oAt w.params 24), 42, oAt w.params 23, seqOf' (oAt w.params 23), seqN' (oAt w.params 23), X 43 _ (by kernel_rfl), by kernel_rfl, by kernel_rfl, by kernel_rfl, by kernel_rfl, by kernel_rfl, X 42 _ (by kernel_rfl), by kernel_rfl, by kernel_rfl⟩⟩
theorem dict_full (X : (KK w.params).In h) : ∀ o, h.get? 43 = some o → o.dict = none := fun o e => by rw [X 43 (oAt w.params 24) (by kernel_rfl)] at e; cases e; kernel_rfl
theorem pat_base (X : (KK w.params).In h) : Pat h 53 baseC 0 :=
  ⟨⟨oAt w.params 28, fieldsOf' (oAt w.params 28), 52, oAt w.params 27, seqOf' (oAt w.params 27), seqN' (oAt w.params 27), X 53 _ (by kernel_rfl), by kernel_rfl, by kernel_rfl, by kernel_rfl, by kernel_rfl, by kernel_rfl, X 52 _ (by kernel_rfl), by kernel_rfl, by kernel_rfl⟩⟩
theorem dict_base (X : (KK w.params).In h) : ∀ o, h.get? 53 = some o → o.dict = none := fun o e => by rw [X 53 (oAt w.params 28) (by kernel_rfl)] at e; cases e; kernel_rfl
theorem pat_rest (X : (KK w.params).In h) : Pat h 58 restC 0 :=
  ⟨⟨oAt w.params 30, fieldsOf' (oAt w.params 30), 57, oAt w.params 29, seqOf' (oAt w.params 29), seqN' (oAt w.params 29), X 58 _ (by kernel_rfl), by kernel_rfl, by kernel_rfl, by kernel_rfl, by kernel_rfl, by kernel_rfl, X 57 _ (by kernel_rfl), by kernel_rfl, by kernel_rfl⟩⟩
theorem dict_rest (X : (KK w.params).In h) : ∀ o, h.get? 58 = some o → o.dict = none := fun o e => by rw [X 58 (oAt w.params 30) (by kernel_rfl)] at e; cases e; kernel_rfl
end
end Mine
end
section
set_option maxRecDepth 100000
local macro_rules | `(tactic| k_steps) => `(tactic| ((try dsimp only); repeat' (first | ((fail_if_success (with_reducible show PySem.wpAny _ _ (PySem.pyIter (PySem.Value.ref _)) _ _ _)); (fail_if_success (with_reducible show PySem.wpAny _ _ (PySem.exec (PySem.Stmt.While _ _ _ _) _) _ _ _)); first | (with_reducible refine PySem.wpAny_execs_cons ?_) | ((try dsimp only); walk1)) | fail "no step")))
local macro_rules | `(tactic| tb_rel) => `(tactic| ((try dsimp only); repeat' (first | ((fail_if_success (with_reducible show PySem.wpAny _ _ (PySem.exec (PySem.Stmt.If _ _ _ _) _) _ _ _)); (fail_if_success (with_reducible show PySem.wpAny _ _ (PySem.pyIter (PySem.Value.ref _)) _ _ _)); (fail_if_success (with_reducible show PySem.wpAny _ _ (PySem.exec (PySem.Stmt.While _ _ _ _) _) _ _ _)); first | (with_reducible refine PySem.wpAny_execs_cons ?_) | ((try dsimp only); walk1)) | fail "no step")))
local macro_rules | `(tactic| k_handed) => `(tactic| assumption)
namespace Mine
open PySem PySem.W PyProof.Rows PySem.Calls
local macro_rules | `(tactic| tb_start) => `(tactic| (have X := Ctx.K (by assumption); revert X; delta PR; k_fill; intro X; refine' enter (by assumption) (by k_is) (by k_is) (Nat.lt_trans (by assumption) (by decide)) ?hb (locs ?hl) ?_ rfl rfl rfl (by decide)))
variable {w : World} {loose : List Str} {mg mb : Str → Option Value} {mean : ExcName → Option Value} {A : Around} {s : Shared} {E : Value → Shared → Prop}

def OptS (v : Value) (g : Option (List Nat)) : Prop := match g with | none => v = .none | some D => ∃ y t, v = .str y t ∧ tx y = D
def OptI (v : Value) (g : Option (List Nat)) : Prop := match g with | none => v = .none | some D => ∃ t, v = .int (numL D) t
theorem grp_opt {x : Str} {o : Option (Nat × Nat)} {g : Option (List Nat)} {v : Value} (h : GrpIs x o v) (e : gtx x.cps o = g) : OptS v g := by
  subst e
  cases o with
  | none => exact h
  | some be => obtain ⟨b, e⟩ := be; obtain ⟨t, rfl⟩ := h; exact ⟨_, t, rfl, rfl⟩
theorem OptS.handed {v : Value} {g : Option (List Nat)} (h : OptS v g) : handedIn v = true := by
  cases g with
  | none => obtain rfl := h; rfl
  | some D => obtain ⟨y, t, rfl, _⟩ := h; rfl
theorem OptI.handed {v : Value} {g : Option (List Nat)} (h : OptI v g) : handedIn v = true := by
  cases g with
  | none => obtain rfl := h; rfl
  | some D => obtain ⟨t, rfl⟩ := h; rfl
/-- a number as the version writes it -/
def NumZ (D : List Nat) : Prop := isNum D ∧ (D.head? = some 48 → D = [48]) ∧ D.length ≤ 300
theorem hlzO_spec {v : Value} {g : Option (List Nat)} (C : Ctx w loose mg mb mean s.heap) (hd : A.depth < 459) (hh : A.handled = none) (ho : OptS v g) (hg : ∀ D, g = some D → NumZ D) :
    codeAny (model PR w) A (.call (.ref 65) ⟨[v], []⟩) (Ret s fun r _ => r = .bool false ∨ r = .none) s := by
  cases g with
  | none => obtain rfl := ho; exact codeAny_mono (hlzN_spec C hd hh) fun r s' ⟨u, h', tk, a, b, c, d⟩ => ⟨u, h', tk, a, b, .inr c, d⟩
  | some D =>
    obtain ⟨y, t, rfl, rfl⟩ := ho
    obtain ⟨h1, h2, h3⟩ := hg _ rfl
    exact codeAny_mono (hlz_spec C hd hh (by rw [tx_len] at h3; exact h3) h1.1 h2) fun r s' ⟨u, h', tk, a, b, c, d⟩ => ⟨u, h', tk, a, b, .inl c, d⟩
theorem coO_spec {v : Value} {b : Bool} {g : Option (List Nat)} (C : Ctx w loose mg mb mean s.heap) (hd : A.depth < 459) (hh : A.handled = none) (ho : OptS v g) (hg : ∀ D, g = some D → NumZ D) (hb : g = none → b = true) :
    codeAny (model PR w) A (.call (.ref 300) ⟨[.ref 457, v, .bool b], []⟩) (Ret s fun r _ => OptI r g) s := by
  cases g with
  | none => obtain rfl := ho; rw [hb rfl]; exact coN_spec C hd hh
  | some D =>
    obtain ⟨y, t, rfl, rfl⟩ := ho
    obtain ⟨h1, h2, h3⟩ := hg _ rfl
    exact co_spec C hd hh (by rw [tx_len] at h3; exact h3) h1.2 h1.1
theorem falsy {prog : Program} {A : Around} {v : Value} {Q : Bool → Shared → Prop} (x : v = .bool false ∨ v = .none) (h : ∀ tk, Q false { s with toks := tk }) : wpAny (model prog w) A (truthy v) Q E s := by
  rcases x with rfl | rfl
  · exact fun _ _ _ => h s.toks
  · exact fun _ _ _ => h s.toks
theorem callWith_MW {M : Model} {A : Around} {K : Frag} {env : Env} {pos : Pos} {h₀ : Heap} {L : Addr} {news : List (Addr × Obj)} {q g : Addr} {self : Value} {first : List Value} {Q : Value → Shared → Prop} {e : Expr} {rest : List Expr} {kws : List Keyword} (_X : K.In h₀) (_N : News h₀ L s.heap news) (_q : (q, methodObj (.ref g) self) ∈ news) (hf : fnIn K g = true) (hall : (backToKw pos (keywordEach kws env)).all (·.1.isSome) = true)
    (h : wpAny M A (spliced (backTo pos (starEach (e :: rest) env))) (fun vs s₁ => wpAny M A (evalAll ((backToKw pos (keywordEach kws env)).map (·.2)))
      (fun ks s₂ => MethP K q g self s₂.heap ∧ wpAny M A (call (.ref q) (first ++ vs) (((backToKw pos (keywordEach kws env)).filterMap (·.1)).zip ks)) Q E s₂) E s₁) E s)
    (hplain : ((backTo pos (starEach (e :: rest) env)).any (·.1) || (backToKw pos (keywordEach kws env)).any (·.1.isNone)) = false := by rfl) (he : starEach (e :: rest) env = (false, eval e env) :: starEach rest env := by rfl) :
    wpAny M A (callWith pos (.ref q) first (backTo pos (starEach (e :: rest) env)) (backToKw pos (keywordEach kws env))) Q E s :=
  callWith_of hplain (keeps_M hf) (evalArgs_kw2 hall h he)
theorem callRB {prog : Program} {A : Around} {h₀ : Heap} {L : Addr} {m : Str → Option Value} {news : List (Addr × Obj)} {Q : Value → Shared → Prop} {q f : Addr} {x : Value} {pos : List Value} {kw : List (Str × Value)} {P : Value → Heap → Prop} (F : Fr h₀ L s.heap m) (N : News h₀ L s.heap news)
    (hm : (q, methodObj (.ref f) x) ∈ news) (h : codeAny (model prog w) A (.call (.ref f) ⟨x :: pos, kw⟩) (Ret s P) s)
    (k : ∀ v h' tk, P v h' → Fr h₀ L h' m → News h₀ L h' news → (∀ b o, s.heap.get? b = some o → h'.get? b = some o) → Q v { s with heap := h', toks := tk }) : wpAny (model prog w) A (call (.ref q) pos kw) Q E s :=
  callR F N (ks_codeAny_call_bound (N _ hm).1 h) k
end Mine
end
section
set_option maxRecDepth 100000
local macro_rules | `(tactic| k_steps) => `(tactic| ((try dsimp only); repeat' (first | ((fail_if_success (with_reducible show PySem.wpAny _ _ (PySem.pyIter (PySem.Value.ref _)) _ _ _)); (fail_if_success (with_reducible show PySem.wpAny _ _ (PySem.exec (PySem.Stmt.Raise _ _ _) _) _ _ _)); (fail_if_success (with_reducible show PySem.wpAny _ _ ((PySem.call (PySem.Value.ref _) _ _)) _ _ _)); (fail_if_success (with_reducible show PySem.wpAny _ _ ((PySem.call (PySem.Value.type "tuple") [PySem.Value.ref _] _)) _ _ _)); (fail_if_success (with_reducible show PySem.wpAny _ _ ((PySem.getMethod (PySem.Value.ref _) (PySem.Str.ofString "match") _)) _ _ _)); (fail_if_success (with_reducible show PySem.wpAny _ _ ((PySem.getMethod (PySem.Value.ref _) (PySem.Str.ofString "groups") _)) _ _ _)); (fail_if_success (with_reducible show PySem.wpAny _ _ ((PySem.call (PySem.Value.type "int") [PySem.Value.str _ _] _)) _ _ _)); (fail_if_success (with_reducible show PySem.wpAny _ _ ((PySem.call (PySem.Value.builtin "re.Pattern.match") _ _)) _ _ _)); (fail_if_success (with_reducible show PySem.wpAny _ _ ((PySem.call (PySem.Value.builtin "re.Match.groups") _ _)) _ _ _)); (fail_if_success (with_reducible show PySem.wpAny _ _ ((PySem.truthy (PySem.Value.ref _))) _ _ _)); (fail_if_success (with_reducible show PySem.wpAny _ _ (PySem.exec (PySem.Stmt.While _ _ _ _) _) _ _ _)); first | (with_reducible refine PySem.wpAny_execs_cons ?_) | ((try dsimp only); walk1)) | fail "no step")))
local macro_rules | `(tactic| tb_rel) => `(tactic| ((try dsimp only); repeat' (first | ((fail_if_success (with_reducible show PySem.wpAny _ _ (PySem.exec (PySem.Stmt.If _ _ _ _) _) _ _ _)); (fail_if_success (with_reducible show PySem.wpAny _ _ (PySem.pyIter (PySem.Value.ref _)) _ _ _)); (fail_if_success (with_reducible show PySem.wpAny _ _ (PySem.exec (PySem.Stmt.Raise _ _ _) _) _ _ _)); (fail_if_success (with_reducible show PySem.wpAny _ _ ((PySem.call (PySem.Value.ref _) _ _)) _ _ _)); (fail_if_success (with_reducible show PySem.wpAny _ _ ((PySem.call (PySem.Value.type "tuple") [PySem.Value.ref _] _)) _ _ _)); (fail_if_success (with_reducible show PySem.wpAny _ _ ((PySem.getMethod (PySem.Value.ref _) (PySem.Str.ofString "match") _)) _ _ _)); (fail_if_success (with_reducible show PySem.wpAny _ _ ((PySem.getMethod (PySem.Value.ref _) (PySem.Str.ofString "groups") _)) _ _ _)); (fail_if_success (with_reducible show PySem.wpAny _ _ ((PySem.call (PySem.Value.type "int") [PySem.Value.str _ _] _)) _ _ _)); (fail_if_success (with_reducible show PySem.wpAny _ _ ((PySem.call (PySem.Value.builtin "re.Pattern.match") _ _)) _ _ _)); (fail_if_success (with_reducible show PySem.wpAny _ _ ((PySem.call (PySem.Value.builtin "re.Match.groups") _ _)) _ _ _)); (fail_if_success (with_reducible show PySem.wpAny _ _ ((PySem.truthy (PySem.Value.ref _))) _ _ _)); (fail_if_success (with_reducible show PySem.wpAny _ _ (PySem.exec (PySem.Stmt.While _ _ _ _) _) _ _ _)); first | (with_reducible refine PySem.wpAny_execs_cons ?_) | ((try dsimp only); walk1)) | fail "no step")))
local macro_rules | `(tactic| k_handed) => `(tactic| assumption)
namespace Mine
open PySem PySem.W PyProof.Rows PySem.Calls
local macro_rules | `(tactic| tb_start) => `(tactic| (have X := Ctx.K (by assumption); revert X; delta PR; k_fill; intro X; refine' enter (by assumption) (by k_is) (by k_is) (Nat.lt_trans (by assumption) (by decide)) ?hb (locs ?hl) ?_ rfl rfl rfl (by decide)))
variable {w : World} {loose : List Str} {mg mb : Str → Option Value} {mean : ExcName → Option Value} {A : Around} {s : Shared} {E : Value → Shared → Prop}

local macro_rules | `(tactic| walk_at "callWith ref") => `(tactic| (refine' callWith_MW ?k1 ?k2 ?k3 ?k4 ?k5 ?_; (case k1 => k_asm); (case k2 => k_asm); (case k3 => k_mem); (case k4 => k_is); (case k5 => exact rfl)))
theorem forget {h₀ h : Heap} {L : Addr} {news : List (Addr × Obj)} (_N : News h₀ L h news) : News h₀ L h [] := fun p hp => nomatch hp
theorem split_sub {c : Nat} : ∀ {p y : List Nat}, y ∈ splitL c p → ∀ d ∈ y, d ∈ p
  | [], y, hy, d, hd => by
    rw [splitL, List.mem_singleton] at hy
    rw [hy] at hd; exact hd
  | a :: r, y, hy, d, hd => by
    rw [splitL] at hy
    split at hy
    · rcases List.mem_cons.mp hy with rfl | hy
      · cases hd
      · exact .tail _ (split_sub hy d hd)
    · cases hs : splitL c r with
      | nil =>
        rw [hs] at hy
        rw [List.mem_singleton.mp hy] at hd
        rw [List.mem_singleton.mp hd]; exact .head _
      | cons z t =>
        rw [hs] at hy
        rcases List.mem_cons.mp hy with rfl | hy
        · rcases List.mem_cons.mp hd with rfl | hd
          · exact .head _
          · exact .tail _ (split_sub (c := c) (p := r) (hs.symm ▸ List.Mem.head _ : z ∈ splitL c r) d hd)
        · exact .tail _ (split_sub (c := c) (p := r) (hs.symm ▸ List.Mem.tail _ hy : y ∈ splitL c r) d hd)
theorem any_bad {l : List (Str × Tok)} {p : List Nat} {c : Bool} (mtx : l.map (fun q => tx q.1) = splitL 46 p) : (l.any fun q => badI c (tx q.1)) = wrongL c p := by
  unfold wrongL
  rw [← mtx, List.any_map]; rfl
theorem tail_128 {p : List Nat} (h : ∀ c ∈ p, isTail c = true) : ∀ c ∈ p, c < 128 := fun c hc => by
  have := h c hc
  unfold isTail isDig at this
  simp at this
  omega
theorem item_ok {l : List (Str × Tok)} {p : List Nat} {n : Nat} {y : Str} (mtx : l.map (fun q => tx q.1) = splitL 46 p) (h : ∀ c ∈ p, isTail c = true) (hb : ∀ a ∈ l.map (fun q : Str × Tok => q.1), a.length ≤ y.length) (hn : y.length ≤ n) : ∀ q ∈ l, q.1.length ≤ n ∧ ∀ c ∈ tx q.1, c < 128 := fun q hq =>
  ⟨Nat.le_trans (hb _ (List.mem_map_of_mem hq)) hn, fun c hc => tail_128 h c (split_sub (c := 46) (y := tx q.1) (by rw [← mtx]; exact List.mem_map_of_mem hq) c hc)⟩
theorem verL_P (rows : List (List Nat)) (p : List Nat) (B : Option (List Nat)) : p.length ≤ (verL rows (some p) B).length := by
  unfold verL tailL
  simp only [List.length_append, List.length_cons]; omega
theorem verL_B (rows : List (List Nat)) (P : Option (List Nat)) (p : List Nat) : p.length ≤ (verL rows P (some p)).length := by
  unfold verL tailL buildL
  simp only [List.length_append, List.length_cons]; omega
theorem callRM {prog : Program} {A : Around} {E : Value → Shared → Prop} {base h₀ : Heap} {outer : List Env} {L : Addr} {m : Str → Option Value} {news : List (Addr × Obj)} {Q : Value → Shared → Prop} {q f : Addr} {x : Value} {c : Bool} {pos : List Value} {kw : List (Str × Value)} {P : Value → Heap → Prop} (F : Fr h₀ L s.heap m) (N : News h₀ L s.heap news)
    (hm : (q, methodObj (.ref f) x) ∈ news) (h : codeAny (model prog w) A (.call (.ref f) ⟨x :: pos, kw⟩) (May c base s.heap outer s P) s)
    (he : c = true → ∀ e t vs h' tk, RaisedS base s.heap outer e (.type "ValueError") t vs [] h' → s.heap.UpToSlots h' → E (.ref e) { s with heap := h', toks := tk })
    (k : c = false → ∀ v h' tk, P v h' → Fr h₀ L h' m → News h₀ L h' news → (∀ b o, s.heap.get? b = some o → h'.get? b = some o) → Q v { s with heap := h', toks := tk }) : wpAny (model prog w) A (call (.ref q) pos kw) Q E s := by
  refine wpAny_call (codeAny_mono (ks_codeAny_call_bound (N _ hm).1 h) fun r s' hr => ?_)
  unfold May at hr
  cases hc : c with
  | true =>
    rw [hc, if_pos rfl] at hr
    obtain ⟨e, t, vs, h', tk, rfl, rfl, R, U⟩ := hr
    exact he hc e t vs h' tk R U
  | false =>
    rw [hc, if_neg (by decide)] at hr
    obtain ⟨v, h', tk, rfl, rfl, p, kk⟩ := hr
    exact k hc v h' tk p (F.keeps kk) (News.keeps N kk) kk
/-- what the groups of a version's text are -/
theorem run_part {t : Array Nat} {D0 : List Nat} {rs : List (List Nat)} {P B : Option (List Nat)} (ht : t.toList = verL (D0 :: rs) P B) (h0 : isNum D0) (hr : ∀ D ∈ rs, isNum D) (hl : rs.length ≤ 2) (hP : isTl 0 P) (hB : isTl 0 B) (hlim : t.size ≤ 4294967295) (hp : ∀ c ∈ t.toList, c < 128) :
    ∃ marks lm, Ev 400 (Sre.forMatch partC t 5 0 t.size false false) (Done 0 t.size marks lm) ∧ Groups t marks lm D0 rs[0]? rs[1]? P B := by
  match rs, hl with
  | [], _ => exact part_run1 ht h0 hP hB hlim hp
  | [D1], _ => exact part_run2 ht h0 (hr D1 (.head _)) hP hB hlim hp
  | [D1, D2], _ => exact part_run3 ht h0 (hr D1 (.head _)) (hr D2 (.tail _ (.head _))) hP hB hlim hp
theorem run_full {t : Array Nat} {D0 : List Nat} {rs : List (List Nat)} {P B : Option (List Nat)} (ht : t.toList = verL (D0 :: rs) P B) (h0 : isNum D0) (hr : ∀ D ∈ rs, isNum D) (hl : rs.length = 2) (hP : isTl 1 P) (hB : isTl 1 B) (hlim : t.size ≤ 4294967295) (hp : ∀ c ∈ t.toList, c < 128) :
    ∃ marks lm, Ev 400 (Sre.forMatch fullC t 5 0 t.size false false) (Done 0 t.size marks lm) ∧ Groups t marks lm D0 rs[0]? rs[1]? P B := by
  match rs, hl with
  | [D1, D2], _ => exact full_run ht h0 (hr D1 (.head _)) (hr D2 (.tail _ (.head _))) hP hB hlim hp
/-- what parse tells of a tail -/
def preOut (b : Bool) (P B : Option (List Nat)) : Option (List (List Nat)) := match P with | some p => some (splitL 46 p) | none => if b && B.isNone then none else some []
def bldOut (b : Bool) (B : Option (List Nat)) : Option (List (List Nat)) := match B with | some p => some (splitL 46 p) | none => if b then none else some []
/-- what parse refuses -/
def refused (P B : Option (List Nat)) : Bool := (match P with | some p => wrongL true p | none => false) || (match B with | some p => wrongL false p | none => false)
theorem refused_P {p : List Nat} {B : Option (List Nat)} (h : wrongL true p = true) : refused (some p) B = true := by simp [refused, h]
theorem refused_Pn {p : List Nat} (h : wrongL true p = false) : refused (some p) none = false := by simp [refused, h]
theorem refused_B {q : List Nat} {P : Option (List Nat)} (h : wrongL false q = true) : refused P (some q) = true := by simp [refused, h]
theorem refused_ok {q : List Nat} {P : Option (List Nat)} (h : refused P none = false) (h2 : wrongL false q = false) : refused P (some q) = false := by
  cases P <;> simp [refused] at h ⊢ <;> simp [h, h2]
/-- what parse gives back -/
def Parsed (G : Heap) (D0 : List Nat) (g1 g2 : Option (List Nat)) (P B : Option (List Nat)) (b : Bool) (v : Value) (h : Heap) : Prop :=
  ∃ T v0 v1 v2 vp vb pre bld, v = .ref T ∧ IsTup h T #[v0, v1, v2, vp, vb] ∧ OptI v0 (some D0) ∧ OptI v1 g1 ∧ OptI v2 g2 ∧ TailV h vp pre ∧ TailV h vb bld ∧ pre.map (fun l => l.map fun q => tx q.1) = preOut b P B ∧ bld.map (fun l => l.map fun q => tx q.1) = bldOut b B ∧ handedIn vp = true ∧ handedIn vb = true ∧ G.get? T = none ∧ (∀ a, vp = .ref a → G.get? a = none) ∧ (∀ a, vb = .ref a → G.get? a = none)
set_option maxHeartbeats 4000000 in
theorem parse_spec {base : Heap} {outer : List Env} (C : Ctx w loose mg mb mean s.heap) (BL : Below A base outer s.heap) (hd : A.depth < 448) (hh : A.handled = none) {x : Str} {tt : Tok} {b : Bool} {D0 : List Nat} {rs : List (List Nat)} {P B : Option (List Nat)}
    (hx : x.length ≤ 300) (hp : ∀ c ∈ tx x, c < 128) (hv : tx x = verL (D0 :: rs) P B) (hr : ∀ D ∈ D0 :: rs, NumZ D) (hl : rs.length ≤ 2) (hb : b = false → rs.length = 2) (hP : isTl 1 P) (hB : isTl 1 B) :
    codeAny (model PR w) A (.call (.ref 351) ⟨[.ref 457, .str x tt, .bool b], []⟩) (May (refused P B) base s.heap outer s (Parsed s.heap D0 rs[0]? rs[1]? P B b)) s := by
  tb_start
  case hb => exact kp_binds (K := KK w.params) (Ctx.K (by assumption)) (binds := [("cls", .ref 457), ("version_string", .str x tt), ("partial", .bool b), ("coerce", .bool false)]) (fun S => rfl)
  case hl => rfl
  intro L h₁ tk hL htk F C'
  have T := C.T
  have N : News s.heap L h₁ [] := News.nil
  have hx0 : (x.length : Int) ≠ 0 := by
    have h1 := (hr D0 (.head _)).1.1
    rw [← tx_len, hv]
    obtain ⟨c, r, e⟩ := List.exists_cons_of_ne_nil h1
    rw [e]
    cases rs <;> simp [verL, joinL] <;> omega
  tb_rel
  refine wpAny_join (fun h' => Fr s.heap L h' (fun y => [(Str.ofString "cls", Value.ref 457), (Str.ofString "version_string", .str x tt), (Str.ofString "partial", .bool b), (Str.ofString "coerce", .bool false)].reverse.lookup y)) ?_ ?_
  · k_steps
    · exact Jn.intro F
    · exact absurd ‹(x.length : Int) = 0› hx0
  intro h' tk' F2
  clear F N
  have F := F2
  have N : News s.heap L h' [] := News.nil
  clear F2
  tb_rel
  refine wpAny_join (fun h' => ∃ m' p CC marks lm, Fr s.heap L h' m' ∧ News s.heap L h' [] ∧ m' "cls" = some (.ref 457) ∧ m' "version_string" = some (.str x tt) ∧ m' "partial" = some (.bool b) ∧ m' "version_re" = some (.ref p) ∧
    Pat h' p CC 5 ∧ (∀ o, h'.get? p = some o → o.dict = none) ∧ Ev 400 (Sre.forMatch CC x.cps 5 0 x.cps.size false false) (Done 0 x.cps.size marks lm) ∧ Groups x.cps marks lm D0 rs[0]? rs[1]? P B) ?_ ?_
  · cases b
    · k_steps
      rename Fr _ _ _ _ => F'
      obtain ⟨marks, lm, q1, q2⟩ := run_full hv (hr D0 (.head _)).1 (fun D hD => (hr D (.tail _ hD)).1) (hb rfl) hP hB (Nat.le_trans hx (by decide)) hp
      exact Jn.intro ⟨_, 43, fullC, marks, lm, F', News.nil, rfl, rfl, rfl, rfl, pat_full (C.keeps F'.keep).K, dict_full (C.keeps F'.keep).K, q1, q2⟩
    · k_steps
      rename Fr _ _ _ _ => F'
      obtain ⟨marks, lm, q1, q2⟩ := run_part hv (hr D0 (.head _)).1 (fun D hD => (hr D (.tail _ hD)).1) hl (fun p hp => ⟨(hP p hp).1, Nat.zero_le _⟩) (fun p hp => ⟨(hB p hp).1, Nat.zero_le _⟩) (Nat.le_trans hx (by decide)) hp
      exact Jn.intro ⟨_, 48, partC, marks, lm, F', News.nil, rfl, rfl, rfl, rfl, pat_part (C.keeps F'.keep).K, dict_part (C.keeps F'.keep).K, q1, q2⟩
  · rintro h2 tk2 ⟨m', p, CC, marks, lm, F2, N2, e1, e2, e3, e4, pat, pdict, hev, hgr⟩
    have F3 := explL F2 [(_, _), (_, _), (_, _), (_, _)] (by simp only [List.forall_mem_cons]; exact ⟨e1, e2, e3, e4, List.forall_mem_nil _⟩)
    clear F2
    k_steps
    refine getMethod_pat pat pdict ?_
    k_steps
    refine call_match_yes pat (Nat.le_trans hx (by decide)) (by decide) hev (by decide) hgr.bad fun li => ?_
    have F4 := F3.push (spanTup (spansOf 0 x.cps.size marks lm 5))
    have N4 := News.push F3 N2 (spanTup (spansOf 0 x.cps.size marks lm 5)) rfl
    have F5 := F4.push (matchObj x tt p h2.objs.size li)
    have N5 := News.push F4 N4 (matchObj x tt p h2.objs.size li) rfl
    rw [Heap.size_push] at N5
    generalize (h2.push (spanTup (spansOf 0 x.cps.size marks lm 5))).push (matchObj x tt p h2.objs.size li) = h4 at F5 N5 ⊢
    generalize h2.objs.size + 1 = mo at N5 ⊢
    generalize h2.objs.size = sp at N5 ⊢
    clear F4 N4 F3 N2 F N
    k_steps
    have mat : ∀ {hq : Heap}, News s.heap L hq [(mo, matchObj x tt p sp li), (sp, spanTup (spansOf 0 x.cps.size marks lm 5))] → Mat hq mo x tt (spansOf 0 x.cps.size marks lm 5) := fun N => ⟨⟨p, sp, li, (N _ (.head _)).1, (N _ (.tail _ (.head _))).1⟩⟩
    refine truthy_match (mat (by assumption)) ?_
    k_steps
    refine getMethod_groups (mat (by assumption)) ?_
    k_steps
    refine call_groups (mat (by assumption)) (Nat.le_trans hx (by decide)) fun v0 v1 v2 v3 v4 tk5 g0 g1 g2 g3 g4 => ?_
    have o0 := grp_opt g0 hgr.h0
    have o1 := grp_opt g1 hgr.h1
    have o2 := grp_opt g2 hgr.h2
    have o3 := grp_opt g3 hgr.h3
    have o4 := grp_opt g4 hgr.h4
    rename Fr _ _ _ _ => F6
    rename News _ _ _ _ => N6
    have F7 := F6.push (spanTup [v0, v1, v2, v3, v4])
    have N7 := News.push F6 N6 (spanTup [v0, v1, v2, v3, v4]) rfl
    change News s.heap L _ ((_, ({ cls := .type "tuple", data := .seq #[v0, v1, v2, v3, v4] } : Obj)) :: _) at N7
    generalize Heap.push _ (spanTup [v0, v1, v2, v3, v4]) = h7 at F7 N7 ⊢
    generalize hsz : Array.size _ = T7 at N7 ⊢
    clear hsz
    have w0 := o0.handed
    have w1 := o1.handed
    have w2 := o2.handed
    have w3 := o3.handed
    have w4 := o4.handed
    clear F6 N6
    refine unpackN_ F7 N7 (N7.isTup (.head _)) hh rfl rfl fun h8 F8 N8 => ?_
    clear F7 N7
    have z0 : ∀ D, some D0 = some D → NumZ D := fun D e => by cases e; exact hr D0 (.head _)
    have z1 : ∀ D, rs[0]? = some D → NumZ D := fun D e => hr D (.tail _ (List.mem_of_getElem? e))
    have z2 : ∀ D, rs[1]? = some D → NumZ D := fun D e => hr D (.tail _ (List.mem_of_getElem? e))
    k_steps
    refine callR (by assumption) (by assumption) (hlzO_spec (Ctx.keeps C (Fr.keep (by assumption))) (by simp only [depth_deeper]; omega) hh o0 z0) ?_
    intro r0 h' tk' rr F' N' hk'
    clear hk'
    k_steps
    refine falsy rr fun tk => ?_
    k_steps
    refine callR (by assumption) (by assumption) (hlzO_spec (Ctx.keeps C (Fr.keep (by assumption))) (by simp only [depth_deeper]; omega) hh o1 z1) ?_
    intro r1 h' tk' rr F' N' hk'
    clear hk'
    k_steps
    refine falsy rr fun tk => ?_
    k_steps
    refine callR (by assumption) (by assumption) (hlzO_spec (Ctx.keeps C (Fr.keep (by assumption))) (by simp only [depth_deeper]; omega) hh o2 z2) ?_
    intro r2 h' tk' rr F' N' hk'
    clear hk'
    k_steps
    refine falsy rr fun tk => ?_
    k_steps
    obtain ⟨y0, t0, rfl, e0⟩ := o0
    refine call_int (by rw [e0]; exact (z0 _ rfl).1.2) (by rw [e0]; exact (z0 _ rfl).1.1) (by rw [← tx_len, e0]; exact (z0 _ rfl).2.2) ?_
    rw [e0]
    k_steps
    refine callRB (f := 300) (x := .ref 457) (by assumption) (by assumption) (.head _) (coO_spec (Ctx.keeps C (Fr.keep (by assumption))) (by simp only [depth_deeper]; omega) hh o1 z1 ?_) ?_
    · intro e
      cases b
      · have := hb rfl
        have := List.getElem?_eq_none_iff.mp e
        omega
      · rfl
    intro n1 h' tk' i1 F' N' hk'
    clear hk'
    have wn1 := i1.handed
    k_steps
    refine callRB (f := 300) (x := .ref 457) (by assumption) (by assumption) (.head _) (coO_spec (Ctx.keeps C (Fr.keep (by assumption))) (by simp only [depth_deeper]; omega) hh o2 z2 ?_) ?_
    · intro e
      cases b
      · have := hb rfl
        have := List.getElem?_eq_none_iff.mp e
        omega
      · rfl
    intro n2 h' tk' i2 F' N' hk'
    clear hk'
    have wn2 := i2.handed
    tb_rel
    rename Fr _ _ _ _ => F8
    have F9 := explL F8 [(Str.ofString "cls", _), (Str.ofString "partial", _), (Str.ofString "prerelease", _), (Str.ofString "build", _), (Str.ofString "major", _), (Str.ofString "minor", _), (Str.ofString "patch", _)] (by simp only [List.forall_mem_cons]; exact ⟨rfl, rfl, rfl, rfl, rfl, rfl, rfl, List.forall_mem_nil _⟩)
    rename News _ _ _ _ => N8
    replace N8 := forget N8
    clear F8 mat e1 e2 e3 e4 pat pdict hev hgr g0 g1 g2 g3 g4 rr
    by_cases hsp : P = none ∧ B = none ∧ b = true
    · obtain ⟨rfl, rfl, rfl⟩ := hsp
      obtain rfl := o3
      obtain rfl := o4
      k_steps
      rename Fr _ _ _ _ => FF
      rename News _ _ _ _ => NN
      refine May.ok rfl (Ret.intro ⟨_, _, _, _, _, _, none, none, rfl, NN.isTup (.head _), ⟨_, rfl⟩, i1, i2, rfl, rfl, rfl, rfl, rfl, rfl, (NN _ (.head _)).2.2, (fun a e => by cases e), (fun a e => by cases e)⟩ FF.keep)
    refine wpAny_join (fun h' => ∃ m' ap l tm, Fr s.heap L h' m' ∧ News s.heap L h' [(ap, { cls := .type "tuple", data := .seq (strValues l).toArray })] ∧ m' (Str.ofString "cls") = some (.ref 457) ∧ m' (Str.ofString "partial") = some (.bool b) ∧ m' (Str.ofString "prerelease") = some (.ref ap) ∧ m' (Str.ofString "build") = some v4 ∧ m' (Str.ofString "major") = some (.int (numL D0) tm) ∧ m' (Str.ofString "minor") = some n1 ∧ m' (Str.ofString "patch") = some n2 ∧
      some (l.map fun q => tx q.1) = preOut b P B ∧ refused P none = false) ?_ ?_
    · cases P with
      | none =>
        obtain rfl := o3
        cases B with
        | none =>
          obtain rfl := o4
          cases b
          · k_steps
            rename Fr _ _ _ _ => FF
            rename News _ _ _ _ => NN
            exact Jn.intro ⟨_, _, [], _, FF, NN, rfl, rfl, rfl, rfl, rfl, rfl, rfl, rfl, rfl⟩
          · exact absurd ⟨rfl, rfl, rfl⟩ hsp
        | some q =>
          obtain ⟨y4, t4, rfl, e4⟩ := o4
          cases b <;> k_steps <;>
          · rename Fr _ _ _ _ => FF
            rename News _ _ _ _ => NN
            exact Jn.intro ⟨_, _, [], _, FF, NN, rfl, rfl, rfl, rfl, rfl, rfl, rfl, rfl, rfl⟩
      | some p =>
        obtain ⟨y3, t3, rfl, e3⟩ := o3
        have hy3 : y3.length ≤ 300 := by
          have := verL_P (D0 :: rs) p B
          rw [← tx_len, e3]
          rw [← tx_len, hv] at hx
          omega
        have n3 : (y3 == Str.ofString "") = false := by
          rw [eq_str, tx_nil, e3]
          have := (hP p rfl).2
          exact decide_eq_false (fun e => by rw [e] at this; exact absurd this (by decide))
        k_steps
        rename List (Str × Tok) => l
        have hmap := ‹List.map (fun q : Str × Tok => q.1) l = Txt.split _ _›
        have hb1 := ‹∀ a ∈ List.map (fun q : Str × Tok => q.1) l, a.length ≤ _›
        rename Fr _ _ _ _ => Fa
        rename News _ _ _ _ => Na
        have hl4 : l.length ≤ 400 := by have := len_le_of_split hmap; omega
        refine call_tuple_list (by assumption) (fun h3 k3 => ?_) (by simp [strValues]; rw [sizeLine_eq]; omega)
        have F3 := (Fa.keeps k3).push { cls := .type "tuple", data := .seq (strValues l).toArray }
        have N3 := News.push (Fa.keeps k3) (News.keeps Na k3) { cls := .type "tuple", data := .seq (strValues l).toArray } rfl
        generalize hap : h3.objs.size = ap at N3 ⊢
        generalize Heap.push h3 _ = h4 at F3 N3 ⊢
        clear Fa Na hap k3
        have mtx : l.map (fun q => tx q.1) = splitL 46 p := by
          rw [← e3, ← split_tx y3 (Str.ofString ".") 46 (by decide +kernel), ← hmap, List.map_map]; rfl
        k_steps
        rename Fr _ _ _ _ => Fb
        rename News _ _ _ _ => Nb
        refine callRM (f := 362) (x := .ref 457) Fb Nb (.head _) (validate_spec (Ctx.keeps C Fb.keep) (BL.push Fb) (by simp only [depth_deeper]; omega) hh (Nb.isTup (.tail _ (.head _))) hl4 ?_) ?_ ?_
        · exact item_ok mtx (hP p rfl).1 hb1 hy3
        · intro hc e t vs h' tk R U
          rw [any_bad mtx] at hc
          exact leave_onS BL Fb R U fun h'' R' _ U' => May.err (refused_P hc) ⟨_, _, _, _, _, rfl, rfl, R', U'⟩
        · intro hc v h' tk hv' Fc Nc kk
          rw [any_bad mtx] at hc
          clear Fb Nb kk
          k_steps
          exact Jn.intro ⟨_, ap, l, _, Fc, fun p hp => Nc p (by rw [List.mem_singleton.mp hp]; exact .tail _ (.head _)), rfl, rfl, rfl, rfl, rfl, rfl, rfl, congrArg some mtx, refused_Pn hc⟩
    · rintro h2 tk2 ⟨m', ap, lp, tm, F2, N2, f1, f2, f3, f4, f5, f6, f7, epre, hrf⟩
      have F3 := explL F2 [(_, _), (_, _), (_, _), (_, _), (_, _), (_, _), (_, _)] (by simp only [List.forall_mem_cons]; exact ⟨f1, f2, f3, f4, f5, f6, f7, List.forall_mem_nil _⟩)
      clear F2 F9 N8
      cases B with
      | none =>
        obtain rfl := o4
        cases b <;> k_steps
        · rename Fr _ _ _ _ => FF
          rename News _ _ _ _ => NN
          exact May.ok hrf (Ret.intro ⟨_, _, _, _, _, _, some lp, some [], rfl, NN.isTup (.head _), ⟨_, rfl⟩, i1, i2, ⟨ap, rfl, NN.isTup (.tail _ (.tail _ (.head _)))⟩, ⟨_, rfl, NN.isTup (.tail _ (.head _))⟩, epre, rfl, rfl, rfl, (NN _ (.head _)).2.2, (fun a e => by cases e; exact (NN _ (.tail _ (.tail _ (.head _)))).2.2), (fun a e => by cases e; exact (NN _ (.tail _ (.head _))).2.2)⟩ FF.keep)
        · rename Fr _ _ _ _ => FF
          rename News _ _ _ _ => NN
          exact May.ok hrf (Ret.intro ⟨_, _, _, _, _, _, some lp, none, rfl, NN.isTup (.head _), ⟨_, rfl⟩, i1, i2, ⟨ap, rfl, NN.isTup (.tail _ (.head _))⟩, rfl, epre, rfl, rfl, rfl, (NN _ (.head _)).2.2, (fun a e => by cases e; exact (NN _ (.tail _ (.head _))).2.2), (fun a e => by cases e)⟩ FF.keep)
      | some q =>
        obtain ⟨y4, t4, rfl, e4⟩ := o4
        have hy4 : y4.length ≤ 300 := by
          have := verL_B (D0 :: rs) P q
          rw [← tx_len, e4]
          rw [← tx_len, hv] at hx
          omega
        have n4 : (y4 == Str.ofString "") = false := by
          rw [eq_str, tx_nil, e4]
          have := (hB q rfl).2
          exact decide_eq_false (fun e => by rw [e] at this; exact absurd this (by decide))
        k_steps
        rename List (Str × Tok) => l
        have hmap := ‹List.map (fun q : Str × Tok => q.1) l = Txt.split _ _›
        have hb1 := ‹∀ a ∈ List.map (fun q : Str × Tok => q.1) l, a.length ≤ _›
        rename Fr _ _ _ _ => Fa
        rename News _ _ _ _ => Na
        have hl4 : l.length ≤ 400 := by have := len_le_of_split hmap; omega
        refine call_tuple_list (by assumption) (fun h3 k3 => ?_) (by simp [strValues]; rw [sizeLine_eq]; omega)
        have F3 := (Fa.keeps k3).push { cls := .type "tuple", data := .seq (strValues l).toArray }
        have N3 := News.push (Fa.keeps k3) (News.keeps Na k3) { cls := .type "tuple", data := .seq (strValues l).toArray } rfl
        generalize hap : h3.objs.size = ap2 at N3 ⊢
        generalize Heap.push h3 _ = h4 at F3 N3 ⊢
        clear Fa Na hap k3
        have mtx : l.map (fun q => tx q.1) = splitL 46 q := by
          rw [← e4, ← split_tx y4 (Str.ofString ".") 46 (by decide +kernel), ← hmap, List.map_map]; rfl
        k_steps
        rename Fr _ _ _ _ => Fb
        rename News _ _ _ _ => Nb
        refine callRM (f := 362) (x := .ref 457) Fb Nb (.head _) (validate_spec (Ctx.keeps C Fb.keep) (BL.push Fb) (by simp only [depth_deeper]; omega) hh (Nb.isTup (.tail _ (.head _))) hl4 ?_) ?_ ?_
        · exact item_ok mtx (hB q rfl).1 hb1 hy4
        · intro hc e t vs h' tk R U
          rw [any_bad mtx] at hc
          exact leave_onS BL Fb R U fun h'' R' _ U' => May.err (refused_B hc) ⟨_, _, _, _, _, rfl, rfl, R', U'⟩
        · intro hc v h' tk hv' Fc Nc kk
          rw [any_bad mtx] at hc
          clear Fb Nb kk
          k_steps
          rename Fr _ _ _ _ => FF
          rename News _ _ _ _ => NN
          exact May.ok (refused_ok hrf hc) (Ret.intro ⟨_, _, _, _, _, _, some lp, some l, rfl, NN.isTup (.head _), ⟨_, rfl⟩, i1, i2, ⟨ap, rfl, NN.isTup (by repeat first | exact .head _ | apply List.Mem.tail)⟩, ⟨_, rfl, NN.isTup (.tail _ (.tail _ (.head _)))⟩, epre, congrArg some mtx, rfl, rfl, (NN _ (.head _)).2.2, (fun a e => by cases e; exact (NN (ap, { cls := .type "tuple", data := .seq (strValues lp).toArray }) (by repeat first | exact .head _ | apply List.Mem.tail)).2.2), (fun a e => by cases e; exact (NN _ (.tail _ (.tail _ (.head _)))).2.2)⟩ FF.keep)
end Mine
end
section
set_option maxRecDepth 100000
local macro_rules | `(tactic| k_steps) => `(tactic| ((try dsimp only); repeat' (first | ((fail_if_success (with_reducible show PySem.wpAny _ _ (PySem.pyIter (PySem.Value.ref _)) _ _ _)); (fail_if_success (with_reducible show PySem.wpAny _ _ (PySem.call (PySem.Value.ref 236) _ _) _ _ _)); (fail_if_success (with_reducible show PySem.wpAny _ _ (PySem.call (PySem.Value.ref 272) _ _) _ _ _)); (fail_if_success (with_reducible show PySem.wpAny _ _ (PySem.eval (PySem.Expr.GeneratorExp _ _ _ _) _) _ _ _)); (fail_if_success (with_reducible show PySem.wpAny _ _ (PySem.exec (PySem.Stmt.While _ _ _ _) _) _ _ _)); first | (with_reducible refine PySem.wpAny_execs_cons ?_) | ((try dsimp only); walk1)) | fail "no step")))
local macro_rules | `(tactic| tb_rel) => `(tactic| ((try dsimp only); repeat' (first | ((fail_if_success (with_reducible show PySem.wpAny _ _ (PySem.exec (PySem.Stmt.If _ _ _ _) _) _ _ _)); (fail_if_success (with_reducible show PySem.wpAny _ _ (PySem.pyIter (PySem.Value.ref _)) _ _ _)); (fail_if_success (with_reducible show PySem.wpAny _ _ (PySem.call (PySem.Value.ref 236) _ _) _ _ _)); (fail_if_success (with_reducible show PySem.wpAny _ _ (PySem.call (PySem.Value.ref 272) _ _) _ _ _)); (fail_if_success (with_reducible show PySem.wpAny _ _ (PySem.eval (PySem.Expr.GeneratorExp _ _ _ _) _) _ _ _)); (fail_if_success (with_reducible show PySem.wpAny _ _ (PySem.exec (PySem.Stmt.While _ _ _ _) _) _ _ _)); first | (with_reducible refine PySem.wpAny_execs_cons ?_) | ((try dsimp only); walk1)) | fail "no step")))
local macro_rules | `(tactic| tb_rel) => `(tactic| ((try dsimp only); repeat' (first | ((fail_if_success (with_reducible show PySem.wpAny _ _ (PySem.eval (PySem.Expr.Name _ _) _) _ _ _)); (fail_if_success (with_reducible show PySem.wpAny _ _ (PySem.call _ _ _) _ _ _)); ((try dsimp only); walk1)) | fail "no step")))
local macro_rules | `(tactic| k_handed) => `(tactic| assumption)
namespace Mine
open PySem PySem.W PyProof.Rows PySem.Calls
local macro_rules | `(tactic| tb_start) => `(tactic| (have X := Ctx.K (by assumption); revert X; delta PR; k_fill; intro X; refine' enter (by assumption) (by k_is) (by k_is) (Nat.lt_trans (by assumption) (by decide)) ?hb (locs ?hl) ?_ rfl rfl rfl (by decide)))
variable {w : World} {loose : List Str} {mg mb : Str → Option Value} {mean : ExcName → Option Value} {A : Around} {s : Shared} {E : Value → Shared → Prop}

set_option maxHeartbeats 4000000 in
theorem key7_spec {B : Heap} (C : Ctx w loose mg mb mean B) (hB : ∀ b o, B.get? b = some o → s.heap.get? b = some o) (hd : A.depth < 450) (hh : A.handled = none) (G : AllBare s.gens)
    {x dx : Addr} {q : Array Value} {k : Nat} {t1 t2 t3 t4 t5 t6 t7 : Tok} {v1 v2 v3 vp vb vr vc : Value} {pre bld : Option (List (Str × Tok))} {wb : Bool}
    (K : Known B s.heap [(392, tabObj q), (x, instObj 457 dx), (dx, dictOf [en w "major" t1 v1, en w "minor" t2 v2, en w "patch" t3 v3, en w "prerelease" t4 vp, en w "build" t5 vb, en w "partial" t6 vr, en w "_cmp_precedence_key" t7 vc] k)])
    (hq : TriplesOk q.toList) (w1 : handedIn v1 = true) (w2 : handedIn v2 = true) (w3 : handedIn v3 = true) (hlp : ∀ l, pre = some l → l.length ≤ 400) (hls : ∀ l, pre = some l → ∀ p ∈ l, IdS p.1) (hbs : ∀ l, bld = some l → ∀ p ∈ l, IdS p.1) (hlb : ∀ l, bld = some l → l.length ≤ 400) (wp : handedIn vp = true) (wb' : handedIn vb = true) (hpre : TailV s.heap vp pre) (hbld : TailV s.heap vb bld) :
    codeAny (model PR w) A (.call (.ref 397) ⟨[.ref x], [(Str.ofString "with_build", .bool wb)]⟩) (RetT [392] s fun v _ => ∃ a, v = .ref a) s := by
  have CB := C.keeps hB
  (have X := CB.K; revert X; delta PR; k_fill; intro X; refine' enter CB (by k_is) (by k_is) (Nat.lt_trans hd (by decide)) ?hb (locs ?hl) ?_ rfl rfl rfl (by decide))
  case hb => exact kp_binds (K := KK w.params) CB.K (binds := [("self", .ref x), ("with_build", .bool wb)]) (fun S => rfl)
  case hl => rfl
  intro L h₁ tk hL htk F0 C'
  obtain ⟨F, N, hBg, hgn⟩ := ground_of F0 hB K
  have C := C.keeps hBg
  clear C' CB X
  generalize hg : hideAll s.heap _ = g at F N hBg hgn C
  have X := C.K
  revert X; delta PR; k_fill; intro X
  have T := C.T
  clear F0
  have hpre := hg ▸ hpre.hide (fun p hp => (K p hp).1) rfl
  have hbld := hg ▸ hbld.hide (fun p hp => (K p hp).1) rfl
  refine PySem.wpAny_execs_cons ?_
  refine wpAny_joinG (fun h' => ∃ q' ap m', Fr g L h' m' ∧ m' "self" = some (.ref x) ∧ m' "with_build" = some (.bool wb) ∧ m' "prerelease_key" = some (.ref ap) ∧ TriplesOk q'.toList ∧
    News g L h' [(392, tabObj q'), (x, instObj 457 dx), (dx, dictOf [en w "major" t1 v1, en w "minor" t2 v2, en w "patch" t3 v3, en w "prerelease" t4 vp, en w "build" t5 vb, en w "partial" t6 vr, en w "_cmp_precedence_key" t7 vc] k)]) ?_ ?_
  · k_steps
    refine truthy_tail (hpre.keeps F.keep) hlp fun tk' => ?_
    cases hb : someL pre
    · k_steps
      rename Fr _ _ _ _ => F'
      rename News _ _ _ _ => N'
      refine JnG.intro G ⟨q, _, _, F', rfl, rfl, rfl, hq, fun p hp => N' p ?_⟩
      simp only [List.mem_cons, List.not_mem_nil, or_false] at hp ⊢
      exact .inr (.inr (.inr hp))
    · obtain ⟨lp, ep, ap, rfl, tp⟩ : ∃ lp, pre = some lp ∧ ∃ ap, vp = .ref ap ∧ IsTup g ap (strValues lp).toArray := by
        cases pre with
        | none => cases hb
        | some lp => obtain ⟨ap, e1, e2⟩ := hpre; exact ⟨lp, rfl, ap, e1, e2⟩
      k_steps
      have tab := TabP.toTab (c := 396) (codeB_at (C.keeps F.keep).K) (N _ (.head _)).1 hq
      refine genexp_rule (c := 396) (P := 392) (cl := []) T ?a1 ?a2 (hgn _ (.head _)) hh ?a3 ?a4 ?a5 ?a6 ?a7 ?a8 ?a9 ?_ ?a10
      case a1 => with_unfolding_all rfl
      case a2 => with_unfolding_all rfl
      case a3 => with_unfolding_all rfl
      case a4 => with_unfolding_all rfl
      case a5 => decide
      case a6 => with_unfolding_all rfl
      case a7 => with_unfolding_all rfl
      case a8 => with_unfolding_all rfl
      case a9 => rw [depth_deeper]; exact Nat.lt_trans (Nat.succ_lt_succ hd) (by decide)
      case a10 => intro _; with_unfolding_all rfl
      k_steps
      refine (show Hold _ from ⟨_, _, fun _ y => ∃ a, y = .ref a, rfl, .inl (tp.keeps F.keep), tab, G, F.keep, ?_, ?_⟩)
      · intro code C2 A' E' i v s₂ m₂ a1 a2 a3 hv hns hm hk
        obtain ⟨y, ty, rfl, hy⟩ : ∃ y ty, v = .str y ty ∧ IdS y := by
          simp only [strValues, List.getElem?_toArray, List.getElem?_map, Option.map_eq_some_iff] at hv
          obtain ⟨p, hp, rfl⟩ := hv
          exact ⟨_, _, rfl, hls _ ep p (List.mem_of_getElem? hp)⟩
        have C3 := C.keeps hk
        have T := C3.T
        have X := C3.K
        have hdA : A'.depth < 458 := Nat.lt_of_le_of_lt a2 (by rw [depth_deeper]; omega)
        revert X; k_fill; intro X
        refine wpAny_IfExp ?_
        walk1
        walk1
        refine wpAny_Name (wpAny_loadName_local rfl rfl hns hm ?_)
        (try dsimp only)
        walk1
        (try dsimp only)
        walk1
        (try dsimp only)
        walk1
        (try dsimp only)
        walk1
        (try dsimp only)
        walk1
        (try dsimp only)
        walk1
        · refine gname C3 ?_
          tb_rel
          refine wpAny_Name (wpAny_loadName_local rfl rfl hns hm ?_)
          tb_rel
          refine callK (numId_spec C3 hdA a1 hy.1 (fun c hc => ?_) hy.2.1) fun v h' tk' P hk' => ⟨P, _, _, rfl, hk'⟩
          have := ‹Txt.isdigit y = true›
          rw [isdigit_tx hy.2.2, Bool.and_eq_true] at this
          exact List.all_eq_true.mp this.2 c hc
        · tb_rel
          refine gname C3 ?_
          tb_rel
          refine wpAny_Name (wpAny_loadName_local rfl rfl hns hm ?_)
          tb_rel
          exact callK (alphaId_spec C3 hdA a1 hy.1 hy.2.2) fun v h' tk' P hk' => ⟨P, _, _, rfl, hk'⟩
      · intro a s₅ k5 tab5 G5 o5 d5 X5
        tb_rel
        refine tuple_genR X5 (by simpa [strValues] using hlp _ ep) G5 fun s' acc k6 G6 o6 d6 hacc => ?_
        obtain ⟨h6, g6, dr6, t6, os6⟩ := s'
        obtain ⟨h5, g5, dr5, t5, os5⟩ := s₅
        dsimp only at k5 tab5 G5 o5 d5 k6 G6 o6 d6 ⊢
        subst o6 d6
        subst o5 d5
        have k56 : ∀ b o, b ≠ 392 → _ = some o → h6.get? b = some o := fun b o hb e => k6 b o (by rw [e]; rfl) (k5 b o hb e)
        obtain ⟨q5, e5, tr5⟩ := tab5.toP
        have e6 := k6 392 _ (by rw [(N _ (.head _)).1]; rfl) e5
        have F6 := (Fr.but F (hgn _ (.head _)) (N _ (.head _)).2.1 k56).push { cls := .type "tuple", data := .seq acc }
        have N6 := News.keeps (News.but N (by rfl) k56 e6) (fun b o e => Heap.get?_push_of_some { cls := .type "tuple", data := .seq acc } e)
        k_steps
        rename Fr _ _ _ _ => F'
        rename News _ _ _ _ => N'
        exact JnG.intro G6 ⟨q5, _, _, F', rfl, rfl, rfl, tr5, fun p hp => N' p hp⟩
  · rintro h2 tk2 gs2 G ⟨q, ap, m', F2, e1, e2, e3, hq, N⟩
    have F := explL F2 [(_, _), (_, _), (_, _)] (by simp only [List.forall_mem_cons]; exact ⟨e1, e2, e3, List.forall_mem_nil _⟩)
    clear F2
    cases wb
    · k_steps
      rename Fr _ _ _ _ => F'
      rename News _ _ _ _ => N'
      exact RetT.one G ⟨_, rfl⟩ (keepsT hg F' K fun p hp => (N' p (.tail _ (.tail _ hp))).1) (N' _ (.tail _ (.head _))).1 hq
    · k_steps
      have tab := TabP.toTab (c := 396) (codeB_at (C.keeps F.keep).K) (N _ (.head _)).1 hq
      refine genexp_rule (c := 396) (P := 392) (cl := []) T ?a1 ?a2 (hgn _ (.head _)) hh ?a3 ?a4 ?a5 ?a6 ?a7 ?a8 ?a9 ?_ ?a10
      case a1 => with_unfolding_all rfl
      case a2 => with_unfolding_all rfl
      case a3 => with_unfolding_all rfl
      case a4 => with_unfolding_all rfl
      case a5 => decide
      case a6 => with_unfolding_all rfl
      case a7 => with_unfolding_all rfl
      case a8 => with_unfolding_all rfl
      case a9 => rw [depth_deeper]; exact Nat.lt_trans (Nat.succ_lt_succ hd) (by decide)
      case a10 => intro _; with_unfolding_all rfl
      refine wpAny_mono (Q := fun xv s₁ => Hold (∃ a l h', xv = .ref a ∧ s₁ = { s with heap := h', toks := s₁.toks, gens := gs2 } ∧ IsTup h' a (strValues l).toArray ∧ l = bld.getD [] ∧ Fr g L h' (told [(Str.ofString "self", .ref x), (Str.ofString "with_build", .bool true), (Str.ofString "prerelease_key", .ref ap)] m') ∧ 
        News g L h' [(392, tabObj q), (x, instObj 457 dx), (dx, dictOf [en w "major" t1 v1, en w "minor" t2 v2, en w "patch" t3 v3, en w "prerelease" t4 vp, en w "build" t5 vb, en w "partial" t6 vr, en w "_cmp_precedence_key" t7 vc] k)])) ?_ ?_ fun _ _ e => e
      · k_steps
        refine truthy_tail (hbld.keeps F.keep) hlb fun tk' => ?_
        cases hb : someL bld
        · k_steps
          rename Fr _ _ _ _ => F'
          rename News _ _ _ _ => N'
          refine (show Hold _ from ⟨_, [], _, rfl, rfl, (N'.isTup (.head _)), ?_, F', fun p hp => N' p (.tail _ hp)⟩)
          cases bld with
          | none => rfl
          | some l => cases l with
            | nil => rfl
            | cons _ _ => cases hb
        · obtain ⟨lb, eb, ab, rfl, tb⟩ : ∃ lb, bld = some lb ∧ ∃ ab, vb = .ref ab ∧ IsTup g ab (strValues lb).toArray := by
            cases bld with
            | none => cases hb
            | some lb => obtain ⟨ab, e1, e2⟩ := hbld; exact ⟨lb, rfl, ab, e1, e2⟩
          k_steps
          exact (show Hold _ from ⟨ab, lb, _, rfl, rfl, tb.keeps F.keep, by rw [eb]; rfl, F, N⟩)
      · rintro xv s₁ ⟨ab, l, h3, rfl, es, tb, el, F, N⟩
        have hls2 : ∀ p ∈ l, IdS p.1 := fun p hp => by
          cases bld with
          | none => rw [el] at hp; cases hp
          | some lb => rw [el] at hp; exact hbs _ rfl p hp
        have hlen2 : l.length ≤ 400 := by
          cases bld with
          | none => rw [el]; exact Nat.zero_le _
          | some lb => rw [el]; exact hlb _ rfl
        rw [es]
        generalize s₁.toks = tk3
        have tab := TabP.toTab (c := 396) (codeB_at (C.keeps F.keep).K) (N _ (.head _)).1 hq
        refine (show Hold _ from ⟨_, _, fun _ y => ∃ a, y = .ref a, rfl, .inl tb, tab, G, F.keep, ?_, ?_⟩)
        · intro code C2 A' E' i v s₂ m₂ a1 a2 a3 hv hns hm hk
          obtain ⟨y, ty, rfl, hy⟩ : ∃ y ty, v = .str y ty ∧ IdS y := by
            simp only [strValues, List.getElem?_toArray, List.getElem?_map, Option.map_eq_some_iff] at hv
            obtain ⟨p, hp, rfl⟩ := hv
            exact ⟨_, _, rfl, hls2 p (List.mem_of_getElem? hp)⟩
          have C3 := C.keeps hk
          have T := C3.T
          have X := C3.K
          have hdA : A'.depth < 458 := Nat.lt_of_le_of_lt a2 (by rw [depth_deeper]; omega)
          revert X; k_fill; intro X
          refine wpAny_IfExp ?_
          walk1
          walk1
          refine wpAny_Name (wpAny_loadName_local rfl rfl hns hm ?_)
          (try dsimp only)
          walk1
          (try dsimp only)
          walk1
          (try dsimp only)
          walk1
          (try dsimp only)
          walk1
          (try dsimp only)
          walk1
          (try dsimp only)
          walk1
          · refine gname C3 ?_
            tb_rel
            refine wpAny_Name (wpAny_loadName_local rfl rfl hns hm ?_)
            tb_rel
            refine callK (numId_spec C3 hdA a1 hy.1 (fun c hc => ?_) hy.2.1) fun v h' tk' P hk' => ⟨P, _, _, rfl, hk'⟩
            have := ‹Txt.isdigit y = true›
            rw [isdigit_tx hy.2.2, Bool.and_eq_true] at this
            exact List.all_eq_true.mp this.2 c hc
          · tb_rel
            refine gname C3 ?_
            tb_rel
            refine wpAny_Name (wpAny_loadName_local rfl rfl hns hm ?_)
            tb_rel
            exact callK (alphaId_spec C3 hdA a1 hy.1 hy.2.2) fun v h' tk' P hk' => ⟨P, _, _, rfl, hk'⟩
        · intro a s₅ k5 tab5 G5 o5 d5 X5
          tb_rel
          refine tuple_genR X5 (by simpa [strValues] using hlen2) G5 fun s' acc k6 G6 o6 d6 hacc => ?_
          obtain ⟨h6, g6, dr6, t6, os6⟩ := s'
          obtain ⟨h5, g5, dr5, t5, os5⟩ := s₅
          dsimp only at k5 tab5 G5 o5 d5 k6 G6 o6 d6 ⊢
          subst o6 d6
          subst o5 d5
          have k56 : ∀ b o, b ≠ 392 → _ = some o → h6.get? b = some o := fun b o hb e => k6 b o (by rw [e]; rfl) (k5 b o hb e)
          obtain ⟨q5, e5, tr5⟩ := tab5.toP
          have e6 := k6 392 _ (by rw [(N _ (.head _)).1]; rfl) e5
          have F6 := (Fr.but F (hgn _ (.head _)) (N _ (.head _)).2.1 k56).push { cls := .type "tuple", data := .seq acc }
          have N6 := News.keeps (News.but N (by rfl) k56 e6) (fun b o e => Heap.get?_push_of_some { cls := .type "tuple", data := .seq acc } e)
          k_steps
          rename Fr _ _ _ _ => F'
          rename News _ _ _ _ => N'
          exact RetT.one G6 ⟨_, rfl⟩ (keepsT hg F' K fun p hp => (N' p (.tail _ (.tail _ hp))).1) (N' _ (.tail _ (.head _))).1 tr5
end Mine
end
section
set_option maxRecDepth 100000
namespace Mine
open PySem PySem.W PyProof.Rows PySem.Calls PySem.Builtin PySem.Builtin.Str
/-- a heap without the two tables that grow -/
def gnd (h : Heap) : Heap := hideAll h [335, 392]
theorem gnd_le {h : Heap} : ∀ b o, (gnd h).get? b = some o → h.get? b = some o := fun _ _ e => of_hideAll _ e
theorem le_gnd {h : Heap} {b : Addr} {o : Obj} (e : h.get? b = some o) (h1 : b ≠ 335) (h2 : b ≠ 392) : (gnd h).get? b = some o := hideAll_get _ e (by simp [h1, h2])
theorem gnd_none1 {h : Heap} : (gnd h).get? 335 = none := hideAll_none _ (.head _)
theorem gnd_none2 {h : Heap} : (gnd h).get? 392 = none := hideAll_none _ (.tail _ (.head _))
theorem Below.up {A : Around} {base g g' : Heap} {outer : List Env} (K : Below A base outer g) (k : ∀ b o, g.get? b = some o → g'.get? b = some o) : Below A base outer g' :=
  ⟨K.stack, fun b o e => k b o (K.stays b o e), K.frames.of_keeps fun b o e _ => ⟨o, k b o e, rfl⟩⟩
theorem Below.make {A : Around} {base g : Heap} {outer : List Env} {C : Addr} {rest : List Value} {kw : List (Str × Value)} (K : Below A base outer g) : Below (A.under (.builtin "type.__call__" ⟨.ref C :: rest, kw⟩)) base outer g :=
  ⟨by rw [← K.stack]; rfl, K.stays, K.frames⟩
/-- what a call that may grow the tables finds -/
structure Gd (w : World) (loose : List Str) (mg mb : Str → Option Value) (mean : ExcName → Option Value) (A : Around) (base : Heap) (outer : List Env) (s : Shared) : Prop where
  C : Ctx w loose mg mb mean (gnd s.heap)
  B : Below A base outer (gnd s.heap)
  t1 : TabP s.heap 335
  t2 : TabP s.heap 392
  g : AllBare s.gens
def ErrT (base : Heap) (outer : List Env) (s : Shared) (r : Result) (s' : Shared) : Prop :=
  ∃ e t vs h' tk gs q1 q2, r = .error (.ref e) ∧ s' = { s with heap := h', toks := tk, gens := gs } ∧ AllBare gs ∧ RaisedS base (gnd s.heap) outer e (.type "ValueError") t vs [(335, tabObj q1), (392, tabObj q2)] h' ∧ (gnd s.heap).UpToSlots h' ∧ TriplesOk q1.toList ∧ TriplesOk q2.toList
def MayT (c : Bool) (base : Heap) (outer : List Env) (s : Shared) (P : Value → Heap → Prop) (r : Result) (s' : Shared) : Prop := if c then ErrT base outer s r s' else RetT [335, 392] s P r s'
theorem MayT.err {c : Bool} {base : Heap} {outer : List Env} {s : Shared} {P : Value → Heap → Prop} {r : Result} {s' : Shared} (hc : c = true) (h : ErrT base outer s r s') : MayT c base outer s P r s' := by unfold MayT; rw [hc, if_pos rfl]; exact h
theorem MayT.ok {c : Bool} {base : Heap} {outer : List Env} {s : Shared} {P : Value → Heap → Prop} {r : Result} {s' : Shared} (hc : c = false) (h : RetT [335, 392] s P r s') : MayT c base outer s P r s' := by unfold MayT; rw [hc, if_neg (by decide)]; exact h
theorem raised_tabs {base G h' : Heap} {l : List Env} {e t : Addr} {cls : Value} {vs : List Value} {q1 q2 : Array Value} (R : RaisedS base G l e cls t vs [] h') (fr : G.FunFrames base l) (e1 : G.get? 335 = some (tabObj q1)) (e2 : G.get? 392 = some (tabObj q2)) (b1 : base.get? 335 = none) (b2 : base.get? 392 = none) :
    RaisedS base (gnd G) l e cls t vs [(335, tabObj q1), (392, tabObj q2)] h' := by
  obtain ⟨⟨B, h1, h2, _, h4⟩, h5⟩ := R
  refine ⟨⟨B, h1, fun b o eb nm => h2 b o (gnd_le _ _ eb) nm, fun q hq => ?_, h4⟩, h5⟩
  have nf : ∀ {b : Addr} {q : Array Value}, G.get? b = some (tabObj q) → b ∉ l.filterMap (·.frame) := fun eb hm => by
    obtain ⟨_, o, ho, nf⟩ := fr.mem hm
    rw [eb] at ho; cases ho; exact nf _ rfl
  rcases List.mem_cons.mp hq with rfl | hq
  · exact ⟨h2 _ _ e1 (nf e1), gnd_none1, b1⟩
  · rw [List.mem_singleton.mp hq]; exact ⟨h2 _ _ e2 (nf e2), gnd_none2, b2⟩
theorem raised_down {base G g h' : Heap} {l : List Env} {e t : Addr} {cls : Value} {vs : List Value} {news nx : List (Addr × Obj)} (R : RaisedS base g l e cls t vs news h') (k : ∀ b o, G.get? b = some o → g.get? b = some o) (hs : ∀ p ∈ nx, p ∈ news) : RaisedS base G l e cls t vs nx h' := by
  obtain ⟨⟨B, h1, h2, h3, h4⟩, h5⟩ := R
  exact ⟨⟨B, h1, fun b o eb nm => h2 b o (k b o eb) nm, fun q hq => ⟨(h3 q (hs q hq)).1, kts_none k (h3 q (hs q hq)).2.1, (h3 q (hs q hq)).2.2⟩, h4⟩, h5⟩
theorem raised_get {base G h' : Heap} {l : List Env} {e t : Addr} {cls : Value} {vs : List Value} {news : List (Addr × Obj)} (R : RaisedS base G l e cls t vs news h') : ∀ p ∈ news, h'.get? p.1 = some p.2 := by
  obtain ⟨⟨B, h1, h2, h3, h4⟩, h5⟩ := R
  exact fun p hp => h4.1.1 _ _ (h3 p hp).1
theorem root_none {A : Around} {base h : Heap} {outer : List Env} {b : Addr} (B : Below A base outer (gnd h)) (hb : b = 335 ∨ b = 392) : base.get? b = none := by
  cases e : base.get? b with
  | none => rfl
  | some o =>
    have := B.stays b o e
    rcases hb with rfl | rfl
    · rw [gnd_none1] at this; cases this
    · rw [gnd_none2] at this; cases this
theorem to_gnd {h₀ h : Heap} {L : Addr} {m : Str → Option Value} {news : List (Addr × Obj)} {q1 q2 : Array Value} (F : Fr h₀ L h m) (N : News h₀ L h news) (e1 : h₀.get? 335 = some (tabObj q1)) (e2 : h₀.get? 392 = some (tabObj q2)) :
    Fr (gnd h₀) L h m ∧ News (gnd h₀) L h (news ++ [(335, tabObj q1), (392, tabObj q2)]) := by
  refine ⟨⟨F.ns, fun b o e => F.keep b o (gnd_le _ _ e), by show (hideAll _ _).objs.size ≤ _; rw [hideAll_size]; exact F.above⟩, fun p hp => ?_⟩
  rcases List.mem_append.mp hp with hp | hp
  · refine ⟨(N p hp).1, (N p hp).2.1, ?_⟩
    cases e : (gnd h₀).get? p.1 with
    | none => rfl
    | some o => have := gnd_le _ _ e; rw [(N p hp).2.2] at this; cases this
  · have nl : ∀ {b : Addr} {o : Obj}, h₀.get? b = some o → b ≠ L := fun eb => Nat.ne_of_lt (Nat.lt_of_lt_of_le (Heap.lt_size eb) F.above)
    rcases List.mem_cons.mp hp with rfl | hp
    · exact ⟨F.keep _ _ e1, nl e1, gnd_none1⟩
    · rw [List.mem_singleton.mp hp]; exact ⟨F.keep _ _ e2, nl e2, gnd_none2⟩
theorem fr_gnd {h₀ h : Heap} {L : Addr} {m : Str → Option Value} (F : Fr (gnd h₀) L h m) (n1 : (335 : Addr) ≠ L) (n2 : (392 : Addr) ≠ L) : Fr (gnd h₀) L (gnd h) m :=
  ⟨F.ns.at' fun o e => le_gnd e (Ne.symm n1) (Ne.symm n2), fun b o e => le_gnd (F.keep b o e) (fun q => by rw [q, gnd_none1] at e; cases e) (fun q => by rw [q, gnd_none2] at e; cases e), by show _ ≤ _; exact F.above⟩
theorem ne_tab {h : Heap} {a P : Addr} {o : Obj} {q : Array Value} (e1 : h.get? a = some o) (e2 : h.get? P = some (tabObj q)) (hc : o.cls ≠ .none) : a ≠ P := fun e => by
  rw [e, e2] at e1; injection e1 with e1; exact hc (by rw [← e1])
theorem ne_new {h : Heap} {a b : Addr} {o : Obj} (e1 : h.get? a = none) (e2 : h.get? b = some o) : a ≠ b := fun e => by rw [e, e2] at e1; cases e1
/-- an object that bears a tail's value -/
theorem tail_obj {h G : Heap} {v : Value} {o : Option (List (Str × Tok))} {T : Addr} {items : Array Value} (x : TailV h v o) (tT : IsTup h T items) (fT : G.get? T = none) (fv : ∀ a, v = .ref a → G.get? a = none) :
    ∃ a ob, h.get? a = some ob ∧ ob.cls = .type "tuple" ∧ (∀ es n, ob.data ≠ .dict es n) ∧ G.get? a = none ∧ ∀ h' : Heap, h'.get? a = some ob → TailV h' v o := by
  cases o with
  | none =>
    obtain ⟨ob, e1, e2, n, e3⟩ := tT
    exact ⟨T, ob, e1, e2, fun es k q => (by rw [e3] at q; cases q), fT, fun _ _ => x⟩
  | some l =>
    obtain ⟨a, rfl, ob, e1, e2, n, e3⟩ := x
    exact ⟨a, ob, e1, e2, fun es k q => (by rw [e3] at q; cases q), fv a rfl, fun h' e => ⟨a, rfl, ob, e, e2, n, e3⟩⟩
theorem split_len {c : Nat} : ∀ p : List Nat, (splitL c p).length ≤ p.length + 1
  | [] => Nat.le_refl _
  | d :: r => by
    have := split_len (c := c) r
    rw [splitL]
    split
    · simp only [List.length_cons]; omega
    · cases hs : splitL c r with
      | nil => simp
      | cons z t => rw [hs] at this; simp only [List.length_cons] at this ⊢; omega
theorem split_item_len {c : Nat} : ∀ {p y : List Nat}, y ∈ splitL c p → y.length ≤ p.length
  | [], y, hy => by rw [splitL, List.mem_singleton] at hy; rw [hy]; exact Nat.le_refl _
  | d :: r, y, hy => by
    rw [splitL] at hy
    split at hy
    · rcases List.mem_cons.mp hy with rfl | hy
      · exact Nat.zero_le _
      · have := split_item_len hy
        simp only [List.length_cons]; omega
    · cases hs : splitL c r with
      | nil =>
        rw [hs] at hy
        rw [List.mem_singleton.mp hy]; simp
      | cons z t =>
        rw [hs] at hy
        rcases List.mem_cons.mp hy with rfl | hy
        · have := split_item_len (c := c) (p := r) (hs.symm ▸ List.Mem.head _ : z ∈ splitL c r)
          simp only [List.length_cons]; omega
        · have := split_item_len (c := c) (p := r) (hs.symm ▸ List.Mem.tail _ hy : y ∈ splitL c r)
          simp only [List.length_cons]; omega
theorem ids_of {l : List (Str × Tok)} {p : List Nat} {c : Bool} (mtx : l.map (fun q => tx q.1) = splitL 46 p) (h : ∀ d ∈ p, isTail d = true) (hn : p.length ≤ 300) (hw : wrongL c p = false) : l.length ≤ 400 ∧ ∀ q ∈ l, IdS q.1 := by
  refine ⟨?_, fun q hq => ?_⟩
  · have := congrArg List.length mtx
    rw [List.length_map] at this
    have := split_len (c := 46) p
    omega
  · have hm : tx q.1 ∈ splitL 46 p := by rw [← mtx]; exact List.mem_map_of_mem hq
    refine ⟨?_, fun e => ?_, fun d hd => tail_128 h d (split_sub hm d hd)⟩
    · rw [← tx_len]; exact Nat.le_trans (split_item_len hm) hn
    · unfold wrongL at hw
      rw [List.any_eq_false] at hw
      have := hw _ hm
      rw [e] at this
      simp [badI] at this
theorem pre_ids {l : List (Str × Tok)} {P B : Option (List Nat)} {b : Bool} (e : some (l.map fun q => tx q.1) = preOut b P B) (h : isTl 1 P) (hn : ∀ p, P = some p → p.length ≤ 300) (hr : refused P B = false) : l.length ≤ 400 ∧ ∀ q ∈ l, IdS q.1 := by
  cases P with
  | none =>
    unfold preOut at e
    dsimp only at e
    split at e
    · cases e
    · injection e with e
      have : l = [] := by simpa using e
      subst this
      exact ⟨Nat.zero_le _, fun q hq => nomatch hq⟩
  | some p =>
    injection e with e
    exact ids_of e (h p rfl).1 (hn p rfl) (c := true) (by unfold refused at hr; simp at hr; exact hr.1)
theorem bld_ids {l : List (Str × Tok)} {P B : Option (List Nat)} {b : Bool} (e : some (l.map fun q => tx q.1) = bldOut b B) (h : isTl 1 B) (hn : ∀ p, B = some p → p.length ≤ 300) (hr : refused P B = false) : l.length ≤ 400 ∧ ∀ q ∈ l, IdS q.1 := by
  cases B with
  | none =>
    unfold bldOut at e
    dsimp only at e
    split at e
    · cases e
    · injection e with e
      have : l = [] := by simpa using e
      subst this
      exact ⟨Nat.zero_le _, fun q hq => nomatch hq⟩
  | some p =>
    injection e with e
    exact ids_of e (h p rfl).1 (hn p rfl) (c := false) (by unfold refused at hr; simp at hr; exact hr.2)
end Mine
end
section
set_option maxRecDepth 100000
local macro_rules | `(tactic| k_steps) => `(tactic| ((try dsimp only); repeat' (first | ((fail_if_success (with_reducible show PySem.wpAny _ _ (PySem.pyIter (PySem.Value.ref _)) _ _ _)); (fail_if_success (with_reducible show PySem.wpAny _ _ ((PySem.call (PySem.Value.ref _) _ _)) _ _ _)); (fail_if_success (with_reducible show PySem.wpAny _ _ (PySem.exec (PySem.Stmt.While _ _ _ _) _) _ _ _)); first | (with_reducible refine PySem.wpAny_execs_cons ?_) | ((try dsimp only); walk1)) | fail "no step")))
local macro_rules | `(tactic| tb_rel) => `(tactic| ((try dsimp only); repeat' (first | ((fail_if_success (with_reducible show PySem.wpAny _ _ (PySem.exec (PySem.Stmt.If _ _ _ _) _) _ _ _)); (fail_if_success (with_reducible show PySem.wpAny _ _ (PySem.pyIter (PySem.Value.ref _)) _ _ _)); (fail_if_success (with_reducible show PySem.wpAny _ _ ((PySem.call (PySem.Value.ref _) _ _)) _ _ _)); (fail_if_success (with_reducible show PySem.wpAny _ _ (PySem.exec (PySem.Stmt.While _ _ _ _) _) _ _ _)); first | (with_reducible refine PySem.wpAny_execs_cons ?_) | ((try dsimp only); walk1)) | fail "no step")))
local macro_rules | `(tactic| walk_at "getMethod ref") => `(tactic| walk_at "last getMethod ref")
local macro_rules | `(tactic| k_handed) => `(tactic| assumption)
namespace Mine
open PySem PySem.W PyProof.Rows PySem.Calls
local macro_rules | `(tactic| tb_start) => `(tactic| (have X := Ctx.K (by assumption); revert X; delta PR; k_fill; intro X; refine' enter (by assumption) (by k_is) (by k_is) (Nat.lt_trans (by assumption) (by decide)) ?hb (locs ?hl) ?_ rfl rfl rfl (by decide)))
variable {w : World} {loose : List Str} {mg mb : Str → Option Value} {mean : ExcName → Option Value} {A : Around} {s : Shared} {E : Value → Shared → Prop}

/-- what a made version is -/
def Ver (w : World) (G h : Heap) (x : Addr) (D0 : List Nat) (g1 g2 P B : Option (List Nat)) (b : Bool) : Prop :=
  ∃ dx k v1 v2 v3 vp vb c1 c2 t1 t2 t3 t4 t5 t6 t7 t8 pre bld, h.get? x = some (instObj 457 dx) ∧
    h.get? dx = some (dictOf [en w "major" t1 v1, en w "minor" t2 v2, en w "patch" t3 v3, en w "prerelease" t4 vp, en w "build" t5 vb, en w "partial" t6 (.bool b), en w "_cmp_precedence_key" t7 (.ref c1), en w "_sort_precedence_key" t8 (.ref c2)] k) ∧
    OptI v1 (some D0) ∧ OptI v2 g1 ∧ OptI v3 g2 ∧ TailV h vp pre ∧ TailV h vb bld ∧ pre.map (fun l => l.map fun q => tx q.1) = preOut b P B ∧ bld.map (fun l => l.map fun q => tx q.1) = bldOut b B ∧ G.get? x = none ∧ G.get? dx = none ∧ (∀ a, vp = .ref a → G.get? a = none) ∧ (∀ a, vb = .ref a → G.get? a = none)
theorem none_down {G G2 : Heap} (k : ∀ b o, G.get? b = some o → G2.get? b = some o) {a : Addr} (e : G2.get? a = none) : G.get? a = none := by
  cases h : G.get? a with
  | none => rfl
  | some o => rw [k a o h] at e; cases e
theorem callT {prog : Program} {A : Around} {E : Value → Shared → Prop} {ps : List Addr} {f : Value} {pos : List Value} {kw : List (Str × Value)} {P : Value → Heap → Prop} {Q : Value → Shared → Prop} (h : codeAny (model prog w) A (.call f ⟨pos, kw⟩) (RetT ps s P) s)
    (k : ∀ v h' tk gs, P v h' → AllBare gs → (∀ b o, b ∉ ps → s.heap.get? b = some o → h'.get? b = some o) → (∀ b ∈ ps, TabP h' b) → Q v { s with heap := h', toks := tk, gens := gs }) : wpAny (model prog w) A (call f pos kw) Q E s := by
  refine wpAny_call (codeAny_mono h fun r s' hr => ?_)
  obtain ⟨v, h', tk, gs, rfl, rfl, g, p, kk, t⟩ := hr
  exact k v h' tk gs p g kk t
set_option maxHeartbeats 4000000 in
theorem ver_spec {base : Heap} {outer : List Env} (G : Gd w loose mg mb mean A base outer s) (hd : A.depth < 444) (hh : A.handled = none) {x : Str} {tt : Tok} {b : Bool} {D0 : List Nat} {rs : List (List Nat)} {P B : Option (List Nat)}
    (hx : x.length ≤ 300) (hp : ∀ c ∈ tx x, c < 128) (hv : tx x = verL (D0 :: rs) P B) (hr : ∀ D ∈ D0 :: rs, NumZ D) (hl : rs.length ≤ 2) (hb : b = false → rs.length = 2) (hP : isTl 1 P) (hB : isTl 1 B) :
    codeAny (model PR w) A (.call (.ref 457) ⟨[.str x tt], [(Str.ofString "partial", .bool b)]⟩) (MayT (refused P B) base outer s fun v h' => ∃ a, v = .ref a ∧ Ver w (gnd s.heap) h' a D0 rs[0]? rs[1]? P B b) s := by
  have C0 := G.C.keeps gnd_le
  have hnP : ∀ p, P = some p → p.length ≤ 300 := fun p e => by
    subst e
    have := verL_P (D0 :: rs) p B
    rw [← tx_len, hv] at hx
    omega
  have hnB : ∀ p, B = some p → p.length ≤ 300 := fun p e => by
    subst e
    have := verL_B (D0 :: rs) P p
    rw [← tx_len, hv] at hx
    omega
  obtain ⟨q1, u1, tr1⟩ := G.t1
  obtain ⟨q2, u2, tr2⟩ := G.t2
  have b1 := root_none G.B (.inl rfl)
  have b2 := root_none G.B (.inr rfl)
  refine makeC (fI := 292) C0 rfl rfl rfl ?_
  have C2 : Ctx w loose mg mb mean ((s.heap.push emptyDict).push (instObj 457 s.heap.objs.size)) := C0.keeps fun b o e => Heap.get?_push_of_some _ (Heap.get?_push_of_some _ e)
  have hd2 : (A.under (.builtin "type.__call__" ⟨.ref 457 :: [.str x tt], [(Str.ofString "partial", .bool b)]⟩)).depth < 445 := Nat.succ_lt_succ hd
  have hh2 : (A.under (.builtin "type.__call__" ⟨.ref 457 :: [.str x tt], [(Str.ofString "partial", .bool b)]⟩)).handled = none := hh
  have BL : Below (A.under (.builtin "type.__call__" ⟨.ref 457 :: [.str x tt], [(Str.ofString "partial", .bool b)]⟩)) base outer (gnd s.heap) := Below.make G.B
  generalize A.under (.builtin "type.__call__" ⟨.ref 457 :: [.str x tt], [(Str.ofString "partial", .bool b)]⟩) = A2 at hd2 hh2 BL
  (have X := C0.K; revert X; delta PR; k_fill; intro X; refine' enter (s := { s with heap := (s.heap.push emptyDict).push (instObj 457 s.heap.objs.size) }) C2 (by k_is) (by k_is) (Nat.lt_trans hd2 (by decide)) ?hb (locs ?hl) ?_ rfl rfl rfl (by decide))
  case hb => exact kp_binds (K := KK w.params) C2.K (binds := [("self", .ref (s.heap.objs.size + 1)), ("version_string", .str x tt), ("major", .none), ("minor", .none), ("patch", .none), ("prerelease", .none), ("build", .none), ("partial", .bool b)]) (fun S => rfl)
  case hl => rfl
  intro L h₁ tk hL htk F C'
  obtain ⟨F1, N1⟩ := made_ground (h := s.heap) F
  obtain ⟨F2, N2⟩ := to_gnd F1 N1 u1 u2
  clear F C2 C' F1 N1 X C0
  have C := G.C
  have X := C.K
  revert X; k_fill; intro X
  have T := C.T
  simp only [List.cons_append, List.nil_append] at N2
  have hne : s.heap.objs.size ≠ s.heap.objs.size + 1 := by omega
  have hz1 : 335 < s.heap.objs.size := Heap.lt_size u1
  have hz2 : 392 < s.heap.objs.size := Heap.lt_size u2
  have hz3 : 392 < s.heap.objs.size + 1 := Nat.lt_succ_of_lt hz2
  generalize s.heap.objs.size + 1 = xo at F2 N2 hne hz3 ⊢
  generalize s.heap.objs.size = dx at F2 N2 hne hz1 hz2 ⊢
  have n1 : (335 : Addr) ≠ L := (N2 _ (.tail _ (.tail _ (.head _)))).2.1
  have n2 : (392 : Addr) ≠ L := (N2 _ (.tail _ (.tail _ (.tail _ (.head _))))).2.1
  k_steps
  rename Fr _ _ _ _ => Fb
  rename News _ _ _ _ => Nb
  refine callRM (f := 351) (x := .ref 457) Fb Nb (.head _) (parse_spec (Ctx.keeps C Fb.keep) (BL.push Fb) (by simp only [depth_deeper]; omega) hh2 hx hp hv hr hl hb hP hB) ?_ ?_
  · intro hc e t vs h' tk R U
    have e1 := (Nb _ (.tail _ (.tail _ (.tail _ (.head _))))).1
    have e2 := (Nb _ (.tail _ (.tail _ (.tail _ (.tail _ (.head _)))))).1
    have R1 := raised_tabs R (BL.push Fb rfl).frames e1 e2 b1 b2
    exact leave_onS BL (fr_gnd Fb n1 n2) R1 ((Heap.UpToSlots.of_keeps gnd_le).trans U) fun h'' R' _ U' => MayT.err hc
      ⟨_, _, _, _, _, _, q1, q2, rfl, rfl, G.g, R', U', tr1, tr2⟩
  · rintro hc v h' tk ⟨T7, v0, v1, v2, vp, vb, pre, bld, rfl, tT, i0, i1, i2, tp, tb, ep, eb, wp, wb, fT, fp, fb⟩ Fc Nc kk
    obtain ⟨ap, oa, ea, ca, da, fa, ga⟩ := tail_obj tp tT fT fp
    obtain ⟨bp, ob, eb2, cb, db, fb2, gb⟩ := tail_obj tb tT fT fb
    have fp' : ∀ a, vp = .ref a → (gnd s.heap).get? a = none := fun a e => none_down Fb.keep (fp a e)
    have fb' : ∀ a, vb = .ref a → (gnd s.heap).get? a = none := fun a e => none_down Fb.keep (fb a e)
    have x1 : ap ≠ xo := ne_new fa (Nb _ (.tail _ (.head _))).1
    have x2 : ap ≠ dx := ne_new fa (Nb _ (.tail _ (.tail _ (.head _)))).1
    have x3 : bp ≠ xo := ne_new fb2 (Nb _ (.tail _ (.head _))).1
    have x4 : bp ≠ dx := ne_new fb2 (Nb _ (.tail _ (.tail _ (.head _)))).1
    have N3 := News.more Fc (News.more Fc (fun p hp => Nc p (List.Mem.tail _ hp)) eb2 db (kts_none Fb.keep fb2)) ea da (kts_none Fb.keep fa)
    have w0 := i0.handed
    have w1 := i1.handed
    have w2 := i2.handed
    clear Nc Nb fp fb
    refine unpackN_ Fc N3 tT hh2 rfl rfl fun h8 F8 N8 => ?_
    clear Fc N3
    k_steps
    have hlp : ∀ l, pre = some l → l.length ≤ 400 := fun l e => (pre_ids (l := l) (by rw [← ep, e]; rfl) hP hnP hc).1
    have hls : ∀ l, pre = some l → ∀ p ∈ l, IdS p.1 := fun l e => (pre_ids (l := l) (by rw [← ep, e]; rfl) hP hnP hc).2
    have hlb : ∀ l, bld = some l → l.length ≤ 400 := fun l e => (bld_ids (l := l) (by rw [← eb, e]; rfl) hB hnB hc).1
    have hbs : ∀ l, bld = some l → ∀ p ∈ l, IdS p.1 := fun l e => (bld_ids (l := l) (by rw [← eb, e]; rfl) hB hnB hc).2
    rename Fr _ _ _ _ => F9
    rename News _ _ _ _ => N9
    have K : Known (gnd s.heap) _ [(392, tabObj q2), (xo, instObj 457 dx), (dx, _)] := fun p hp => by
      rcases List.mem_cons.mp hp with rfl | hp
      · exact ⟨(N9 _ (.tail _ (.tail _ (.tail _ (.tail _ (.tail _ (.head _))))))).1, (N9 _ (.tail _ (.tail _ (.tail _ (.tail _ (.tail _ (.head _))))))).2.2⟩
      rcases List.mem_cons.mp hp with rfl | hp
      · exact ⟨(N9 _ (.tail _ (.tail _ (.head _)))).1, (N9 _ (.tail _ (.tail _ (.head _)))).2.2⟩
      · rw [List.mem_singleton.mp hp]; exact ⟨(N9 _ (.tail _ (.tail _ (.tail _ (.head _))))).1, (N9 _ (.tail _ (.tail _ (.tail _ (.head _))))).2.2⟩
    refine callT (ps := [392]) (key_spec (s := { heap := _, gens := s.gens, drawn := s.drawn, toks := _, os := s.os }) (B := gnd s.heap) (x := xo) (dx := dx) (q := q2) (pre := pre) (bld := bld) C F9.keep (by simp only [depth_deeper]; omega) (by exact hh2) G.g K tr2 w0 w1 w2 hlp hls hbs hlb wp wb (ga _ (N9 _ (.head _)).1) (gb _ (N9 _ (.tail _ (.head _))).1)) ?_
    rintro v h' tk gsa ⟨cka, rfl⟩ Ga kqa tab
    obtain ⟨q3, e3, tra'⟩ := tab 392 (.head _)
    have kb : ∀ b o, b ≠ 392 → _ = some o → h'.get? b = some o := fun b o hb e => kqa b o (by simpa using hb) e
    have F10 := Fr.but F9 gnd_none2 n2 kb
    have N10 : News (gnd s.heap) L h' [(ap, oa), (bp, ob), (xo, instObj 457 dx), (dx, _), (335, tabObj q1), (392, tabObj q3)] := fun p hp => by
      rcases List.mem_cons.mp hp with rfl | hp
      · exact ⟨kb _ _ (ne_tab (N9 _ (.head _)).1 (N9 _ (.tail _ (.tail _ (.tail _ (.tail _ (.tail _ (.head _))))))).1 (by rw [ca]; decide)) (N9 _ (.head _)).1, (N9 _ (.head _)).2⟩
      rcases List.mem_cons.mp hp with rfl | hp
      · exact ⟨kb _ _ (ne_tab (N9 _ (.tail _ (.head _))).1 (N9 _ (.tail _ (.tail _ (.tail _ (.tail _ (.tail _ (.head _))))))).1 (by rw [cb]; decide)) (N9 _ (.tail _ (.head _))).1, (N9 _ (.tail _ (.head _))).2⟩
      rcases List.mem_cons.mp hp with rfl | hp
      · exact ⟨kb _ _ (ne_tab (N9 _ (.tail _ (.tail _ (.head _)))).1 (N9 _ (.tail _ (.tail _ (.tail _ (.tail _ (.tail _ (.head _))))))).1 (by intro e; cases e)) (N9 _ (.tail _ (.tail _ (.head _)))).1, (N9 _ (.tail _ (.tail _ (.head _)))).2⟩
      rcases List.mem_cons.mp hp with rfl | hp
      · exact ⟨kb _ _ (ne_tab (N9 _ (.tail _ (.tail _ (.tail _ (.head _))))).1 (N9 _ (.tail _ (.tail _ (.tail _ (.tail _ (.tail _ (.head _))))))).1 (by intro e; cases e)) (N9 _ (.tail _ (.tail _ (.tail _ (.head _))))).1, (N9 _ (.tail _ (.tail _ (.tail _ (.head _))))).2⟩
      rcases List.mem_cons.mp hp with rfl | hp
      · exact ⟨kb _ _ (show (335 : Addr) ≠ 392 by decide) (N9 _ (.tail _ (.tail _ (.tail _ (.tail _ (.head _)))))).1, (N9 _ (.tail _ (.tail _ (.tail _ (.tail _ (.head _)))))).2⟩
      · rw [List.mem_singleton.mp hp]; exact ⟨e3, (N9 _ (.tail _ (.tail _ (.tail _ (.tail _ (.tail _ (.head _))))))).2⟩
    clear F9 N9 K kb kqa tab
    k_steps
    rename Fr _ _ _ _ => F9
    rename News _ _ _ _ => N9
    have K : Known (gnd s.heap) _ [(392, tabObj q3), (xo, instObj 457 dx), (dx, _)] := fun p hp => by
      rcases List.mem_cons.mp hp with rfl | hp
      · exact ⟨(N9 _ (.tail _ (.tail _ (.tail _ (.tail _ (.tail _ (.head _))))))).1, (N9 _ (.tail _ (.tail _ (.tail _ (.tail _ (.tail _ (.head _))))))).2.2⟩
      rcases List.mem_cons.mp hp with rfl | hp
      · exact ⟨(N9 _ (.tail _ (.tail _ (.head _)))).1, (N9 _ (.tail _ (.tail _ (.head _)))).2.2⟩
      · rw [List.mem_singleton.mp hp]; exact ⟨(N9 _ (.tail _ (.tail _ (.tail _ (.head _))))).1, (N9 _ (.tail _ (.tail _ (.tail _ (.head _))))).2.2⟩
    refine callT (ps := [392]) (key7_spec (s := { heap := _, gens := gsa, drawn := s.drawn, toks := _, os := s.os }) (B := gnd s.heap) (x := xo) (dx := dx) (q := q3) (pre := pre) (bld := bld) C F9.keep (by simp only [depth_deeper]; omega) (by exact hh2) Ga K tra' w0 w1 w2 hlp hls hbs hlb wp wb (ga _ (N9 _ (.head _)).1) (gb _ (N9 _ (.tail _ (.head _))).1)) ?_
    rintro v h' tk gsb ⟨ckb, rfl⟩ Gb kqb tab
    obtain ⟨q4, e3, trb'⟩ := tab 392 (.head _)
    have kb : ∀ b o, b ≠ 392 → _ = some o → h'.get? b = some o := fun b o hb e => kqb b o (by simpa using hb) e
    have F10 := Fr.but F9 gnd_none2 n2 kb
    have N10 : News (gnd s.heap) L h' [(ap, oa), (bp, ob), (xo, instObj 457 dx), (dx, _), (335, tabObj q1), (392, tabObj q4)] := fun p hp => by
      rcases List.mem_cons.mp hp with rfl | hp
      · exact ⟨kb _ _ (ne_tab (N9 _ (.head _)).1 (N9 _ (.tail _ (.tail _ (.tail _ (.tail _ (.tail _ (.head _))))))).1 (by rw [ca]; decide)) (N9 _ (.head _)).1, (N9 _ (.head _)).2⟩
      rcases List.mem_cons.mp hp with rfl | hp
      · exact ⟨kb _ _ (ne_tab (N9 _ (.tail _ (.head _))).1 (N9 _ (.tail _ (.tail _ (.tail _ (.tail _ (.tail _ (.head _))))))).1 (by rw [cb]; decide)) (N9 _ (.tail _ (.head _))).1, (N9 _ (.tail _ (.head _))).2⟩
      rcases List.mem_cons.mp hp with rfl | hp
      · exact ⟨kb _ _ (ne_tab (N9 _ (.tail _ (.tail _ (.head _)))).1 (N9 _ (.tail _ (.tail _ (.tail _ (.tail _ (.tail _ (.head _))))))).1 (by intro e; cases e)) (N9 _ (.tail _ (.tail _ (.head _)))).1, (N9 _ (.tail _ (.tail _ (.head _)))).2⟩
      rcases List.mem_cons.mp hp with rfl | hp
      · exact ⟨kb _ _ (ne_tab (N9 _ (.tail _ (.tail _ (.tail _ (.head _))))).1 (N9 _ (.tail _ (.tail _ (.tail _ (.tail _ (.tail _ (.head _))))))).1 (by intro e; cases e)) (N9 _ (.tail _ (.tail _ (.tail _ (.head _))))).1, (N9 _ (.tail _ (.tail _ (.tail _ (.head _))))).2⟩
      rcases List.mem_cons.mp hp with rfl | hp
      · exact ⟨kb _ _ (show (335 : Addr) ≠ 392 by decide) (N9 _ (.tail _ (.tail _ (.tail _ (.tail _ (.head _)))))).1, (N9 _ (.tail _ (.tail _ (.tail _ (.tail _ (.head _)))))).2⟩
      · rw [List.mem_singleton.mp hp]; exact ⟨e3, (N9 _ (.tail _ (.tail _ (.tail _ (.tail _ (.tail _ (.head _))))))).2⟩
    clear F9 N9 K kb kqb tab
    k_steps
    rename Fr _ _ _ _ => F9
    rename News _ _ _ _ => N9
    refine ⟨rfl, MayT.ok hc ⟨_, _, _, gsb, rfl, rfl, Gb, ⟨xo, rfl, dx, _, v0, v1, v2, vp, vb, cka, ckb, _, _, _, _, _, _, _, _, pre, bld, (N9 _ (.tail _ (.tail _ (.head _)))).1, (N9 _ (.tail _ (.tail _ (.tail _ (.head _))))).1, i0, i1, i2, ga _ (N9 _ (.head _)).1, gb _ (N9 _ (.tail _ (.head _))).1, ep, eb, (N9 _ (.tail _ (.tail _ (.head _)))).2.2, (N9 _ (.tail _ (.tail _ (.tail _ (.head _))))).2.2, fp', fb'⟩, fun b o hb e => F9.keep b o (le_gnd e (fun q => hb (by simp [q])) (fun q => hb (by simp [q]))), fun b hb => ?_⟩⟩
    rcases List.mem_cons.mp hb with rfl | hb
    · exact ⟨q1, (N9 _ (.tail _ (.tail _ (.tail _ (.tail _ (.head _)))))).1, tr1⟩
    · rw [List.mem_singleton.mp hb]; exact ⟨q4, (N9 _ (.tail _ (.tail _ (.tail _ (.tail _ (.tail _ (.head _))))))).1, trb'⟩
end Mine
end
section
set_option maxRecDepth 100000
namespace Mine
open PySem PySem.W PyProof.Rows PySem.Calls PySem.Builtin PySem.Builtin.Str
theorem tx_sub (x : Str) (i j : Nat) : tx (strSub x i j) = ((tx x).drop i).take (j - i) := StrLaws.strSub_toList x i j
theorem tw_first {c : Nat} : ∀ {l : List Nat} {i : Nat}, l[i]? = some c → (∀ k, k < i → l[k]? ≠ some c) → (l.takeWhile (· != c)).length = i
  | [], i, h, _ => by simp at h
  | a :: r, 0, h, _ => by
    simp at h
    rw [List.takeWhile_cons, h]; simp
  | a :: r, i + 1, h, hn => by
    have ha : a ≠ c := fun e => hn 0 (Nat.succ_pos _) (by rw [e]; rfl)
    have e : (a != c) = true := by simpa using ha
    rw [List.takeWhile_cons, e, if_pos rfl, List.length_cons]
    rw [tw_first (l := r) (i := i) (by simpa using h) fun k hk => by have := hn (k + 1) (by omega); simpa using this]
/-- where a sign stands first -/
theorem occ_tx (x : Str) (c : Nat) : occurrences x ⟨#[c]⟩ 0 x.length 1 = if c ∈ tx x then [((tx x).takeWhile (· != c)).length] else [] := by
  rcases StrLaws.occ_head x ⟨#[c]⟩ 1 (Nat.le_refl 1) with ⟨h0, hn⟩ | ⟨i, r, h0, hi, hn⟩
  · rw [h0, if_neg]
    intro hm
    obtain ⟨j, hj⟩ := List.getElem?_of_mem hm
    exact hn j ((StrLaws.subAt_one x c j).mpr hj)
  · have hl := StrLaws.occ_length_le x ⟨#[c]⟩ 0 x.length 1
    rw [h0] at hl
    have hr : r = [] := by simpa using hl
    have hi' := (StrLaws.subAt_one x c i).mp hi
    rw [h0, hr, if_pos (show c ∈ tx x from List.mem_of_getElem? hi'), tw_first (l := tx x) hi' fun k hk e => hn k hk ((StrLaws.subAt_one x c k).mpr e)]
theorem find_tx (x : Str) (c : Nat) : Txt.find x ⟨#[c]⟩ = if c ∈ tx x then (((tx x).takeWhile (· != c)).length : Int) else -1 := by
  unfold Txt.find
  rw [occ_tx]
  split <;> rename_i h <;> split at h <;> simp_all
theorem dw_drop (p : Nat → Bool) (l : List Nat) : l.drop ((l.takeWhile p).length + 1) = (l.dropWhile p).drop 1 := by
  rw [← List.drop_drop, drop_takeWhile]
theorem split1_tx {x : Str} {c : Nat} (hc : c ∈ tx x) (hk : PySem.Builtin.Str.strKind ⟨#[c]⟩ = 1) : (Txt.splitMax x ⟨#[c]⟩ 1).map tx = [(tx x).takeWhile (· != c), ((tx x).dropWhile (· != c)).drop 1] := by
  have ho := occ_tx x c
  rw [if_pos hc] at ho
  have hlen : 1 ≤ x.length := by rw [← tx_len]; exact List.length_pos_of_mem hc
  have hk2 : 1 ≤ PySem.Builtin.Str.strKind x := by unfold PySem.Builtin.Str.strKind; split <;> (try split) <;> decide
  unfold Txt.splitMax
  have e0 : (decide (x.length < (⟨#[c]⟩ : Str).length) || decide (PySem.Builtin.Str.strKind x < PySem.Builtin.Str.strKind ⟨#[c]⟩)) = false := by
    rw [hk, show (⟨#[c]⟩ : Str).length = 1 from rfl, decide_eq_false (by omega), decide_eq_false (by omega)]; rfl
  rw [e0, if_neg (by decide)]
  have e1 : limitOf x 1 = 1 := rfl
  rw [e1, ho, if_neg (by simp)]
  unfold partsBetween
  simp only [List.map_cons, List.map_nil, List.cons_append, List.nil_append, List.zip_cons_cons, List.zip_nil_right]
  rw [tx_sub, tx_sub, List.drop_zero, Nat.sub_zero, take_takeWhile, show (⟨#[c]⟩ : Str).length = 1 from rfl, dw_drop, List.take_of_length_le]
  rw [← dw_drop, List.length_drop, tx_len]
  exact Nat.le_refl _
def pt (c : Nat) : Nat := if c = 43 then 46 else c
theorem join_split_map {c d : Nat} : ∀ l : List Nat, joinL d (splitL c l) = l.map fun a => if a = c then d else a
  | [] => rfl
  | a :: r => by
    have ih := join_split_map (c := c) (d := d) r
    rw [splitL, List.map_cons]
    cases hs : splitL c r with
    | nil =>
      have := split_len (c := c) r
      exact absurd hs (by cases r with
        | nil => simp [splitL]
        | cons b t => rw [splitL]; split <;> (try split) <;> simp)
    | cons z t =>
      rw [hs] at ih
      split
      · rw [← ih]; cases t <;> rfl
      · rw [← ih]; cases t <;> rfl
theorem replace_tx (x : Str) : tx (Txt.replace x (Str.ofString "+") (Str.ofString ".")) = (tx x).map pt := by
  rw [show Str.ofString "+" = ⟨#[43]⟩ by decide +kernel, StrLaws.replace_one, tx_join (c := 46) (by decide +kernel), split_tx x ⟨#[43]⟩ 43 rfl, join_split_map]; rfl
theorem lstrip_tx (x : Str) : tx (Txt.lstripChars x (Str.ofString "0")) = (tx x).dropWhile (· == 48) := by
  have hg : ∀ c, (Str.ofString "0").cps.contains c = (c == 48) := fun c => by
    rw [show Str.ofString "0" = ⟨#[48]⟩ by decide +kernel]
    simp
    rfl
  unfold Txt.lstripChars
  rw [PyProof.Rows.stripBy_eq, tx_sub]
  have e1 : stripLo (Str.ofString "0").cps.contains true x = ((tx x).takeWhile (· == 48)).length := by
    unfold stripLo
    simp only [if_true]
    congr 1
    show List.takeWhile _ (tx x) = _
    congr 1
    funext c; exact hg c
  have e2 : ∀ lo, stripHi (Str.ofString "0").cps.contains false x lo = x.length := fun lo => by simp [stripHi]
  rw [e1, e2, drop_takeWhile, List.take_of_length_le]
  rw [← drop_takeWhile, List.length_drop, tx_len]
  exact Nat.le_refl _
theorem count_tx (x : Str) : Txt.count x (Str.ofString ".") = ((tx x).count 46 : Nat) := by
  rw [show Str.ofString "." = ⟨#[46]⟩ by decide +kernel, count_is]
  show cnt 46 (tx x) = _
  induction tx x with
  | nil => rfl
  | cons a r ih =>
    rw [cnt_cons, ih, List.count_cons]
    by_cases h : a = 46
    · rw [if_pos h, h]; simp; omega
    · rw [if_neg h]; simp [h]
end Mine
end
section
set_option maxRecDepth 100000
namespace Mine
open PySem PySem.W PyProof.Rows PySem.Calls PySem.Builtin PySem.Builtin.Str
theorem openL_view (n : Nat) (s : List Nat) : (s.takeWhile isDig = [] ∧ openL (n + 1) s = ([], s)) ∨ (s.takeWhile isDig ≠ [] ∧ openL (n + 1) s = ([s.takeWhile isDig], s.dropWhile isDig)) ∨
    (∃ c t, 0 < n ∧ s.takeWhile isDig ≠ [] ∧ s.dropWhile isDig = 46 :: c :: t ∧ isDig c = true ∧ openL (n + 1) s = (s.takeWhile isDig :: (openL n (c :: t)).1, (openL n (c :: t)).2)) := by
  by_cases h : s.takeWhile isDig = []
  · exact .inl ⟨h, openL_none (Nat.succ_pos _) h⟩
  · by_cases h2 : ∃ c t, s.dropWhile isDig = 46 :: c :: t ∧ isDig c = true
    · obtain ⟨c, t, e, hc⟩ := h2
      cases n with
      | zero => exact .inr (.inl ⟨h, openL_last h⟩)
      | succ n => exact .inr (.inr ⟨c, t, Nat.succ_pos _, h, e, hc, openL_go (Nat.succ_pos _) h e hc⟩)
    · refine .inr (.inl ⟨h, openL_stop (Nat.succ_pos _) h fun c t e => ?_⟩)
      cases hc : isDig c with
      | false => rfl
      | true => exact absurd ⟨c, t, e, hc⟩ h2
theorem tw_cons {c : Nat} {t : List Nat} (hc : isDig c = true) : (c :: t).takeWhile isDig ≠ [] := by rw [List.takeWhile_cons, hc]; simp
theorem openL_ne {n : Nat} {s : List Nat} (hn : 0 < n) (h : s.takeWhile isDig ≠ []) : (openL n s).1 ≠ [] := by
  obtain ⟨n, rfl⟩ : ∃ k, n = k + 1 := ⟨n - 1, by omega⟩
  rcases openL_view n s with ⟨e, _⟩ | ⟨_, e⟩ | ⟨c, t, _, _, _, _, e⟩
  · exact absurd e h
  · rw [e]; simp
  · rw [e]; simp
theorem joinL_cons {c : Nat} {a : List Nat} {r : List (List Nat)} (h : r ≠ []) : joinL c (a :: r) = a ++ c :: joinL c r := by
  cases r with
  | nil => exact absurd rfl h
  | cons b t => rfl
theorem openL_join : ∀ (n : Nat) (s : List Nat), (openL n s).1 ≠ [] → joinL 46 (openL n s).1 ++ (openL n s).2 = s
  | 0, s, h => absurd rfl h
  | n + 1, s, h => by
    have e0 : s.takeWhile isDig ++ s.dropWhile isDig = s := List.takeWhile_append_dropWhile
    rcases openL_view n s with ⟨_, e⟩ | ⟨_, e⟩ | ⟨c, t, hn, h1, h2, hc, e⟩
    · rw [e] at h; exact absurd rfl h
    · rw [e]; exact e0
    · have hne := openL_ne hn (tw_cons (t := t) hc)
      rw [e]
      show joinL 46 (_ :: _) ++ _ = s
      rw [joinL_cons hne, List.append_assoc, List.cons_append, openL_join n (c :: t) hne, ← h2, e0]
theorem openL_nums : ∀ (n : Nat) (s : List Nat), ∀ D ∈ (openL n s).1, isNum D
  | 0, _, _, h => nomatch h
  | n + 1, s, D, h => by
    have one : s.takeWhile isDig ≠ [] → isNum (s.takeWhile isDig) := fun h => ⟨h, fun c hc => by
      have := List.all_takeWhile (p := isDig) (l := s)
      exact List.all_eq_true.mp this c hc⟩
    rcases openL_view n s with ⟨_, e⟩ | ⟨h1, e⟩ | ⟨c, t, hn, h1, h2, hc, e⟩
    · rw [e] at h; cases h
    · rw [e] at h
      rw [List.mem_singleton.mp h]; exact one h1
    · rw [e] at h
      rcases List.mem_cons.mp h with rfl | h
      · exact one h1
      · exact openL_nums n (c :: t) D h
theorem openL_len : ∀ (n : Nat) (s : List Nat), (openL n s).1.length ≤ n
  | 0, _ => Nat.le_refl _
  | n + 1, s => by
    rcases openL_view n s with ⟨_, e⟩ | ⟨h1, e⟩ | ⟨c, t, hn, h1, h2, hc, e⟩
    · rw [e]; exact Nat.zero_le _
    · rw [e]; show 1 ≤ _; omega
    · rw [e]
      have := openL_len n (c :: t)
      show _ + 1 ≤ _; omega
theorem tw_app {D r : List Nat} (h : isNum D) (hr : ∀ c t, r = c :: t → isDig c = false) : (D ++ r).takeWhile isDig = D ∧ (D ++ r).dropWhile isDig = r := by
  have ha : ∀ a ∈ D, isDig a = true := h.2
  rw [List.takeWhile_append_of_pos ha, List.dropWhile_append_of_pos ha]
  cases r with
  | nil => simp
  | cons c t =>
    have := hr c t rfl
    rw [List.takeWhile_cons, List.dropWhile_cons, this]; simp
theorem openL_told {rest : List Nat} (hr : ∀ c t, rest = c :: t → isDig c = false ∧ c ≠ 46) : ∀ (n : Nat) (rows : List (List Nat)), rows ≠ [] → rows.length ≤ n → (∀ D ∈ rows, isNum D) → openL n (joinL 46 rows ++ rest) = (rows, rest)
  | _, [], h, _, _ => absurd rfl h
  | 0, _ :: _, _, h, _ => absurd h (by simp)
  | n + 1, [D], _, _, hD => by
    obtain ⟨e1, e2⟩ := tw_app (r := rest) (hD D (.head _)) (fun c t e => (hr c t e).1)
    show openL (n + 1) (D ++ rest) = _
    rw [openL_stop (Nat.succ_pos _) (by rw [e1]; exact (hD D (.head _)).1) (fun c t e => ?_), e1, e2]
    rw [e2] at e
    exact absurd rfl (hr 46 _ e).2
  | n + 1, D :: E :: r, _, hl, hD => by
    obtain ⟨c, t, e⟩ := List.exists_cons_of_ne_nil (hD E (.tail _ (.head _))).1
    have hc : isDig c = true := (hD E (.tail _ (.head _))).2 c (by rw [e]; exact .head _)
    have hj : ∃ u, joinL 46 (E :: r) ++ rest = c :: u := by
      rw [e]
      cases r with
      | nil => exact ⟨t ++ rest, rfl⟩
      | cons a b => exact ⟨t ++ 46 :: joinL 46 (a :: b) ++ rest, by simp [joinL]⟩
    obtain ⟨u, hu⟩ := hj
    have hx : joinL 46 (D :: E :: r) ++ rest = D ++ 46 :: (c :: u) := by
      show (D ++ 46 :: joinL 46 (E :: r)) ++ rest = _
      rw [List.append_assoc, List.cons_append, hu]
    obtain ⟨e1, e2⟩ := tw_app (r := 46 :: c :: u) (hD D (.head _)) (fun c t e => by injection e with e _; rw [← e]; rfl)
    have hn : 0 < n := by simp at hl; omega
    rw [hx, openL_go hn (by rw [e1]; exact (hD D (.head _)).1) e2 hc, e1, ← hu, openL_told hr n (E :: r) (by simp) (by simp at hl ⊢; omega) (fun X hX => hD X (.tail _ hX))]
/-- a number without the noughts ahead -/
def normD (D : List Nat) : List Nat := if (D.dropWhile (· == 48)).isEmpty then [48] else D.dropWhile (· == 48)
theorem dw_sub {p : Nat → Bool} {D : List Nat} {c : Nat} (h : c ∈ D.dropWhile p) : c ∈ D := (List.dropWhile_sublist p).subset h
theorem dw_head : ∀ {D : List Nat}, (D.dropWhile (· == 48)).head? ≠ some 48
  | [] => by simp
  | c :: r => by
    rw [List.dropWhile_cons]
    by_cases h : c = 48
    · rw [h]; simpa using dw_head (D := r)
    · have : (c == 48) = false := by simpa using h
      rw [this]; simpa using h
theorem normD_num {D : List Nat} (h : isNum D) : isNum (normD D) ∧ ((normD D).head? = some 48 → normD D = [48]) ∧ (normD D).length ≤ D.length := by
  unfold normD
  split
  · refine ⟨⟨by simp, fun c hc => by rw [List.mem_singleton.mp hc]; rfl⟩, fun _ => rfl, ?_⟩
    exact List.length_pos_iff.mpr h.1
  · rename_i h1
    exact ⟨⟨by simpa using h1, fun c hc => h.2 c (dw_sub hc)⟩, fun e => absurd e dw_head, (List.dropWhile_sublist _).length_le⟩
theorem dw_id {D : List Nat} (h : D.head? ≠ some 48) : D.dropWhile (· == 48) = D := by
  cases D with
  | nil => rfl
  | cons c r =>
    have : (c == 48) = false := by simpa using h
    rw [List.dropWhile_cons, this]; rfl
theorem normD_idem (D : List Nat) : normD (normD D) = normD D := by
  by_cases h : (D.dropWhile (· == 48)).isEmpty = true
  · have e : normD D = [48] := by unfold normD; rw [if_pos h]
    rw [e]; rfl
  · have e : normD D = D.dropWhile (· == 48) := by unfold normD; rw [if_neg h]
    rw [e]
    unfold normD
    rw [dw_id dw_head, if_neg h]
theorem foldl_dw : ∀ D : List Nat, NumText.digitsVal (D.dropWhile (· == 48)) = NumText.digitsVal D
  | [] => rfl
  | c :: r => by
    rw [List.dropWhile_cons]
    by_cases h : c = 48
    · subst h
      have := foldl_dw r
      rw [NumText.digitsVal_zero]; simpa using this
    · have : (c == 48) = false := by simpa using h
      rw [this]; rfl
theorem numL_norm (D : List Nat) : numL (normD D) = numL D := by
  unfold numL
  rw [← foldl_dw D]
  unfold normD
  split
  · rename_i h
    rw [List.isEmpty_iff.mp h]; rfl
  · rfl
theorem char_back {c : Nat} (h : c < 128) : (Char.ofNat c).toNat = c := by
  have : ∀ c, c < 128 → (Char.ofNat c).toNat = c := by decide +kernel
  exact this c h
theorem str_num {D : List Nat} (h : ∀ c ∈ D, isDig c = true) : tx (Str.ofString (toString (numL D))) = normD D := by
  have ha : NumText.AllDigits D := fun c hc => by
    have := h c hc
    unfold isDig at this
    simpa using this
  have e : toString (numL D) = Nat.repr (NumText.digitsVal D) := rfl
  have e2 : (Nat.repr (NumText.digitsVal D)).toList = Nat.toDigits 10 (NumText.digitsVal D) := by simp [Nat.repr]
  unfold tx
  rw [Str.ofString_eq_toList, e, e2, NumText.toDigits_all D ha]
  unfold normD
  have hd : ∀ c ∈ D.dropWhile (· == 48), (Char.ofNat c).toNat = c := fun c hc => by
    have := h c (dw_sub hc)
    unfold isDig at this
    simp at this
    exact char_back (by omega)
  generalize D.dropWhile (· == 48) = X at hd
  cases X with
  | nil => rfl
  | cons c r =>
    simp only [List.isEmpty_cons, Bool.false_eq_true, if_false]
    rw [List.map_map]
    conv => rhs; rw [← List.map_id (c :: r)]
    exact List.map_congr_left fun a ha => hd a ha
end Mine
end
section
set_option maxRecDepth 100000
namespace Mine
open PySem PySem.W PyProof.Rows PySem.Calls PySem.Builtin PySem.Builtin.Str
/-- a body cut at its first plus -/
def cutP (l : List Nat) : List Nat × List Nat := (l.takeWhile (· != 43), (l.dropWhile (· != 43)).drop 1)
/-- the rest told: pre-release and build -/
def cutL : List Nat → List Nat × List Nat
  | [] => ([], [])
  | c :: t => if c = 43 ∨ c = 46 then ([], t) else if c = 45 then cutP t else cutP (c :: t)
theorem cutL_cons (c : Nat) (t : List Nat) : cutL (c :: t) = if c = 43 ∨ c = 46 then ([], t) else if c = 45 then cutP t else cutP (c :: t) := rfl
def optL (l : List Nat) : Option (List Nat) := if l.isEmpty then none else some l
def preL (x : List Nat) : List Nat := (cutL ((openL 3 x).2.map hy)).1
def bldL (x : List Nat) : List Nat := (cutL ((openL 3 x).2.map hy)).2.map pt
def rowsB (b : Bool) (rows : List (List Nat)) : List (List Nat) := if b then rows else rows ++ List.replicate (3 - rows.length) [48]
def coNums (b : Bool) (x : List Nat) : List (List Nat) := (rowsB b (openL 3 x).1).map normD
/-- what coerce refuses -/
def badC (x : List Nat) : Bool := (openL 3 x).1.isEmpty || refused (optL (preL x)) (optL (bldL x))
theorem hy_isKept (c : Nat) : isKept (hy c) = true := by
  unfold hy
  split
  · assumption
  · rfl
theorem kept_tail {c : Nat} (h : isKept c = true) (hc : c ≠ 43) : isTail c = true := by
  unfold isKept at h
  simpa [hc] using h
theorem tail_kept {c : Nat} (h : isTail c = true) : isKept c = true := by unfold isKept; rw [h]; rfl
theorem tail_no43 {c : Nat} (h : isTail c = true) : c ≠ 43 := fun e => by rw [e] at h; revert h; decide
theorem cutP_ok {l : List Nat} (h : ∀ c ∈ l, isKept c = true) : (∀ c ∈ (cutP l).1, isTail c = true) ∧ ∀ c ∈ (cutP l).2, isKept c = true := by
  refine ⟨fun c hc => ?_, fun c hc => h c (dw_sub (List.mem_of_mem_drop hc))⟩
  have h1 := List.all_eq_true.mp (List.all_takeWhile (p := (· != 43)) (l := l)) c hc
  exact kept_tail (h c ((List.takeWhile_sublist _).subset hc)) (by simpa using h1)
theorem cutL_ok {l : List Nat} (h : ∀ c ∈ l, isKept c = true) : (∀ c ∈ (cutL l).1, isTail c = true) ∧ ∀ c ∈ (cutL l).2, isKept c = true := by
  cases l with
  | nil => exact ⟨fun c hc => (nomatch hc), fun c hc => nomatch hc⟩
  | cons a t =>
    rw [cutL_cons]
    split
    · exact ⟨fun c hc => (nomatch hc), fun c hc => h c (.tail _ hc)⟩
    · split
      · exact cutP_ok fun c hc => h c (.tail _ hc)
      · exact cutP_ok h
theorem pre_tail (x : List Nat) : ∀ c ∈ preL x, isTail c = true := (cutL_ok (fun c hc => by obtain ⟨a, _, rfl⟩ := List.mem_map.mp hc; exact hy_isKept a)).1
theorem bld_tail (x : List Nat) : ∀ c ∈ bldL x, isTail c = true := fun c hc => by
  obtain ⟨a, ha, rfl⟩ := List.mem_map.mp hc
  have := (cutL_ok (fun c hc => by obtain ⟨a, _, rfl⟩ := List.mem_map.mp hc; exact hy_isKept a)).2 a ha
  unfold pt
  split
  · rfl
  · exact kept_tail this (by assumption)
theorem optL_tl {l : List Nat} (h : ∀ c ∈ l, isTail c = true) : isTl 1 (optL l) := fun p e => by
  unfold optL at e
  split at e
  · cases e
  · rename_i h1
    cases e
    exact ⟨h, List.length_pos_iff.mpr (by simpa using h1)⟩
theorem cutP_len (l : List Nat) : (cutP l).1.length + (cutP l).2.length ≤ l.length := by
  unfold cutP
  have := List.takeWhile_append_dropWhile (p := (· != 43)) (l := l)
  have := congrArg List.length this
  rw [List.length_append] at this
  simp only [List.length_drop]; omega
theorem cutL_len (l : List Nat) : (cutL l).1.length + (cutL l).2.length ≤ l.length := by
  cases l with
  | nil => exact Nat.le_refl _
  | cons a t =>
    rw [cutL_cons]
    split
    · simp
    · split
      · have := cutP_len t
        simp only [List.length_cons]; omega
      · exact cutP_len _
theorem tailL_opt (p b : List Nat) : tailL (optL p) (optL b) = (if p.isEmpty then [] else 45 :: p) ++ (if b.isEmpty then [] else 43 :: b) := by
  unfold tailL optL
  cases p <;> cases b <;> rfl
/-- the text that is told -/
def toldL (x : List Nat) : List Nat := verL (coNums true x) (optL (preL x)) (optL (bldL x))
theorem coNums_true (x : List Nat) : coNums true x = (openL 3 x).1.map normD := rfl
theorem told_open {x : List Nat} (h : (openL 3 x).1 ≠ []) : openL 3 (toldL x) = (coNums true x, tailL (optL (preL x)) (optL (bldL x))) := by
  unfold toldL verL
  refine openL_told (fun c t e => ?_) 3 _ (by rw [coNums_true]; simpa using h) (by rw [coNums_true, List.length_map]; exact openL_len 3 x) (fun D hD => ?_)
  · rw [tailL_opt] at e
    cases hp : preL x with
    | nil =>
      cases hb : bldL x with
      | nil => rw [hp, hb] at e; cases e
      | cons a r => rw [hp, hb] at e; injection e with e _; rw [← e]; decide
    | cons a r => rw [hp] at e; injection e with e _; rw [← e]; decide
  · rw [coNums_true] at hD
    obtain ⟨E, hE, rfl⟩ := List.mem_map.mp hD
    exact (normD_num (openL_nums 3 x E hE)).1
theorem map_hyK {l : List Nat} (h : ∀ c ∈ l, isKept c = true) : l.map hy = l := by
  conv => rhs; rw [← List.map_id l]
  exact List.map_congr_left fun c hc => by unfold hy; rw [if_pos (h c hc)]; rfl
theorem map_pt {l : List Nat} (h : ∀ c ∈ l, isTail c = true) : l.map pt = l := by
  conv => rhs; rw [← List.map_id l]
  exact List.map_congr_left fun c hc => by unfold pt; rw [if_neg (tail_no43 (h c hc))]; rfl
theorem cutP_app {p r : List Nat} (h : ∀ c ∈ p, isTail c = true) (hr : ∀ c t, r = c :: t → c = 43) : cutP (p ++ r) = (p, r.drop 1) := by
  have ha : ∀ a ∈ p, (a != 43) = true := fun a hm => by have := tail_no43 (h a hm); simpa using this
  unfold cutP
  rw [List.takeWhile_append_of_pos ha, List.dropWhile_append_of_pos ha]
  cases r with
  | nil => simp
  | cons c t => rw [hr c t rfl]; simp
theorem cut_told {p b : List Nat} (hp : ∀ c ∈ p, isTail c = true) (hb : ∀ c ∈ b, isTail c = true) : cutL ((tailL (optL p) (optL b)).map hy) = (p, b) := by
  have hk : ∀ c ∈ tailL (optL p) (optL b), isKept c = true := fun c hc => by
    rw [tailL_opt] at hc
    rcases List.mem_append.mp hc with hc | hc
    · split at hc
      · cases hc
      · rcases List.mem_cons.mp hc with rfl | hc
        · decide
        · exact tail_kept (hp c hc)
    · split at hc
      · cases hc
      · rcases List.mem_cons.mp hc with rfl | hc
        · decide
        · exact tail_kept (hb c hc)
  rw [map_hyK hk, tailL_opt]
  cases p with
  | nil =>
    cases b with
    | nil => rfl
    | cons a r => rfl
  | cons a r =>
    show cutL (45 :: ((a :: r) ++ _)) = _
    rw [cutL_cons, if_neg (by decide), if_pos rfl]
    cases b with
    | nil => rw [cutP_app hp (fun c t e => by cases e)]; rfl
    | cons c t => rw [cutP_app hp (fun c t e => by injection e with e _; exact e.symm)]; rfl
theorem told_pre {x : List Nat} (h : (openL 3 x).1 ≠ []) : preL (toldL x) = preL x := by
  unfold preL; rw [told_open h, cut_told (pre_tail x) (bld_tail x)]; rfl
theorem told_bld {x : List Nat} (h : (openL 3 x).1 ≠ []) : bldL (toldL x) = bldL x := by
  have : bldL (toldL x) = (bldL x).map pt := by
    show (cutL ((openL 3 (toldL x)).2.map hy)).2.map pt = _
    rw [told_open h, cut_told (pre_tail x) (bld_tail x)]
  rw [this, map_pt (bld_tail x)]
theorem told_nums {x : List Nat} (h : (openL 3 x).1 ≠ []) : coNums true (toldL x) = coNums true x := by
  rw [coNums_true (toldL x), told_open h]
  show (coNums true x).map normD = _
  rw [coNums_true, List.map_map]
  exact List.map_congr_left fun D _ => normD_idem D
theorem told_bad {x : List Nat} (h : (openL 3 x).1 ≠ []) : badC (toldL x) = refused (optL (preL x)) (optL (bldL x)) := by
  unfold badC
  rw [told_pre h, told_bld h, told_open h]
  have : (coNums true x).isEmpty = false := by rw [coNums_true]; simpa using h
  rw [this]; rfl
theorem joinL_len {c : Nat} : ∀ {l : List (List Nat)}, l ≠ [] → (joinL c l).length + 1 = (l.map List.length).sum + l.length
  | [], h => absurd rfl h
  | [x], _ => by simp [joinL]
  | x :: y :: r, _ => by
    have := joinL_len (c := c) (l := y :: r) (by simp)
    rw [joinL, List.length_append, List.length_cons]
    simp only [List.map_cons, List.sum_cons, List.length_cons] at this ⊢
    omega
theorem norm_sum : ∀ {l : List (List Nat)}, (∀ D ∈ l, isNum D) → ((l.map normD).map List.length).sum ≤ (l.map List.length).sum
  | [], _ => Nat.le_refl _
  | D :: r, h => by
    have h1 := (normD_num (h D (.head _))).2.2
    have h2 := norm_sum fun E hE => h E (.tail _ hE)
    simp only [List.map_cons, List.sum_cons]; omega
theorem rows_num {b : Bool} {x : List Nat} : ∀ D ∈ rowsB b (openL 3 x).1, isNum D := fun D hD => by
  unfold rowsB at hD
  split at hD
  · exact openL_nums 3 x D hD
  · rcases List.mem_append.mp hD with hD | hD
    · exact openL_nums 3 x D hD
    · rw [(List.mem_replicate.mp hD).2]
      exact ⟨by simp, fun c hc => by rw [List.mem_singleton.mp hc]; rfl⟩
theorem rows_ne {b : Bool} {x : List Nat} (h : (openL 3 x).1 ≠ []) : rowsB b (openL 3 x).1 ≠ [] := by
  unfold rowsB
  split
  · exact h
  · simp [h]
theorem rowsB_sum (b : Bool) (rows : List (List Nat)) (h : rows.length ≤ 3) : ((rowsB b rows).map List.length).sum + (rowsB b rows).length ≤ (rows.map List.length).sum + rows.length + 6 := by
  unfold rowsB
  split
  · omega
  · simp only [List.map_append, List.sum_append, List.length_append, List.length_replicate, List.map_replicate, List.length_cons, List.length_nil]
    have : ∀ k : Nat, (List.replicate k (0 + 1)).sum = k := fun k => by
      induction k with
      | zero => rfl
      | succ k ih => rw [List.replicate_succ, List.sum_cons, ih]; omega
    rw [this]
    omega
/-- the version's text is not much longer -/
theorem ver_len {b : Bool} {x : List Nat} (h : (openL 3 x).1 ≠ []) : (verL (coNums b x) (optL (preL x)) (optL (bldL x))).length ≤ x.length + 8 := by
  have h1 := congrArg List.length (openL_join 3 x h)
  rw [List.length_append] at h1
  have h2 := joinL_len (c := 46) h
  have hne : coNums b x ≠ [] := by unfold coNums; simpa using rows_ne h
  have h3 := joinL_len (c := 46) hne
  have h4 := norm_sum (rows_num (b := b) (x := x))
  have h5 := rowsB_sum b (openL 3 x).1 (openL_len 3 x)
  have h6 := cutL_len ((openL 3 x).2.map hy)
  rw [List.length_map] at h6
  have h7 : (coNums b x).length = (rowsB b (openL 3 x).1).length := by unfold coNums; rw [List.length_map]
  have h8 : ((coNums b x).map List.length).sum ≤ ((rowsB b (openL 3 x).1).map List.length).sum := h4
  have h9 : (bldL x).length = (cutL ((openL 3 x).2.map hy)).2.length := by unfold bldL; rw [List.length_map]
  have h10 : (preL x).length = (cutL ((openL 3 x).2.map hy)).1.length := rfl
  unfold verL
  rw [tailL_opt, List.length_append, List.length_append]
  have h11 : (if (preL x).isEmpty then [] else 45 :: preL x : List Nat).length ≤ (preL x).length + 1 := by split <;> simp
  have h12 : (if (bldL x).isEmpty then [] else 43 :: bldL x : List Nat).length ≤ (bldL x).length + 1 := by split <;> simp
  omega
end Mine
namespace Mine
open PySem PySem.W PyProof.Rows PySem.Calls PySem.Builtin PySem.Builtin.Str
theorem num_no46 {D : List Nat} (h : isNum D) : D.count 46 = 0 := List.count_eq_zero.mpr fun hm => by have := h.2 46 hm; revert this; decide
theorem joinL_count : ∀ {l : List (List Nat)}, l ≠ [] → (∀ D ∈ l, isNum D) → (joinL 46 l).count 46 + 1 = l.length
  | [], h, _ => absurd rfl h
  | [x], _, hD => by rw [joinL, num_no46 (hD x (.head _))]; rfl
  | x :: y :: r, _, hD => by
    have := joinL_count (l := y :: r) (by simp) fun D h => hD D (.tail _ h)
    rw [joinL, List.count_append, num_no46 (hD x (.head _)), List.count_cons]
    simp only [List.length_cons] at this ⊢
    simp; omega
theorem joinL_snoc {c : Nat} {d : List Nat} : ∀ {l : List (List Nat)}, l ≠ [] → joinL c (l ++ [d]) = joinL c l ++ c :: d
  | [], h => absurd rfl h
  | [x], _ => rfl
  | x :: y :: r, _ => by
    have := joinL_snoc (c := c) (d := d) (l := y :: r) (by simp)
    show x ++ c :: joinL c ((y :: r) ++ [d]) = (x ++ c :: joinL c (y :: r)) ++ c :: d
    rw [this, List.append_assoc]; rfl
theorem rows_rep (rows : List (List Nat)) (j : Nat) (h : ∀ D ∈ rows, isNum D) : ∀ D ∈ rows ++ List.replicate j [48], isNum D := fun D hD => by
  rcases List.mem_append.mp hD with hD | hD
  · exact h D hD
  · rw [(List.mem_replicate.mp hD).2]
    exact ⟨by simp, fun c hc => by rw [List.mem_singleton.mp hc]; rfl⟩
/-- a row without the noughts ahead, as the code tells it -/
def nzS (y : Str) : Str := if (tx (Txt.lstripChars y (Str.ofString "0"))).isEmpty then Str.ofString "0" else Txt.lstripChars y (Str.ofString "0")
theorem nzS_tx (y : Str) : tx (nzS y) = normD (tx y) := by
  unfold nzS normD
  rw [lstrip_tx]
  split
  · decide +kernel
  · rw [lstrip_tx]
theorem nzS_len (y : Str) : (nzS y).length ≤ y.length + 1 := by
  unfold nzS
  split
  · exact Nat.le_trans (show (Str.ofString "0").length ≤ 1 by decide +kernel) (Nat.le_add_left ..)
  · exact Nat.le_succ_of_le (len_lstripChars y _)
def itemF (l : List (Str × Tok)) (i : Nat) : Str := match l[i]? with | some q => nzS q.1 | none => Str.ofString ""
theorem itemF_all (l : List (Str × Tok)) : (List.range l.length).map (itemF l) = l.map fun q => nzS q.1 := by
  apply List.ext_getElem
  · simp
  · intro i h1 h2
    simp only [List.length_map, List.length_range] at h1
    simp [itemF, List.getElem?_eq_getElem h1]
end Mine
namespace Mine
open PySem PySem.W PyProof.Rows PySem.Calls PySem.Builtin PySem.Builtin.Str
theorem rep_succ (rows : List (List Nat)) (j : Nat) : rows ++ List.replicate (j + 1) [48] = (rows ++ List.replicate j [48]) ++ [[48]] := by
  rw [List.replicate_succ', List.append_assoc]
theorem rep_len {rows : List (List Nat)} (h : rows ≠ []) : ∀ j, (joinL 46 (rows ++ List.replicate j [48])).length = (joinL 46 rows).length + 2 * j
  | 0 => by simp
  | j + 1 => by
    rw [rep_succ, joinL_snoc (by simp [h]), List.length_append, rep_len h j]
    simp only [List.length_cons, List.length_nil]; omega
theorem join_le {x : List Nat} (h : (openL 3 x).1 ≠ []) : (joinL 46 (openL 3 x).1).length ≤ x.length := by
  have := congrArg List.length (openL_join 3 x h)
  rw [List.length_append] at this; omega
end Mine
end
section
set_option maxRecDepth 100000
namespace Mine
open PySem PySem.W PyProof.Rows PySem.Calls PySem.Builtin PySem.Builtin.Str
theorem row_len {x : List Nat} : ∀ (n : Nat) (s : List Nat), ∀ D ∈ (openL n s).1, D.length ≤ s.length
  | 0, _, _, h => nomatch h
  | n + 1, s, D, h => by
    have h0 : (s.takeWhile isDig).length ≤ s.length := (List.takeWhile_sublist _).length_le
    rcases openL_view n s with ⟨_, e⟩ | ⟨h1, e⟩ | ⟨c, t, hn, h1, h2, hc, e⟩
    · rw [e] at h; cases h
    · rw [e] at h; rw [List.mem_singleton.mp h]; exact h0
    · rw [e] at h
      rcases List.mem_cons.mp h with rfl | h
      · exact h0
      · have h3 := row_len (x := x) n (c :: t) D h
        have h4 : (s.dropWhile isDig).length ≤ s.length := (List.dropWhile_sublist _).length_le
        rw [h2] at h4
        simp only [List.length_cons] at h3 h4; omega
theorem coNums_ok {b : Bool} {x : List Nat} (hx : x.length ≤ 200) : ∀ D ∈ coNums b x, NumZ D := fun D hD => by
  obtain ⟨E, hE, rfl⟩ := List.mem_map.mp hD
  obtain ⟨h1, h2, h3⟩ := normD_num (rows_num E hE)
  refine ⟨h1, h2, Nat.le_trans h3 ?_⟩
  unfold rowsB at hE
  split at hE
  · exact Nat.le_trans (row_len (x := x) 3 x E hE) (by omega)
  · rcases List.mem_append.mp hE with hE | hE
    · exact Nat.le_trans (row_len (x := x) 3 x E hE) (by omega)
    · rw [(List.mem_replicate.mp hE).2]; decide
theorem coNums_len {b : Bool} {x : List Nat} : (coNums b x).length ≤ 3 ∧ (b = false → (coNums b x).length = 3) := by
  have h := openL_len 3 x
  unfold coNums rowsB
  rw [List.length_map]
  cases b
  · refine ⟨?_, fun _ => ?_⟩
    · simp; omega
    · simp; omega
  · exact ⟨h, fun e => by cases e⟩
theorem bad_eq {x : List Nat} (h : (openL 3 x).1 ≠ []) : badC x = refused (optL (preL x)) (optL (bldL x)) := by
  unfold badC
  have : (openL 3 x).1.isEmpty = false := by simpa using h
  rw [this]; rfl
theorem item0 {y z : Str} {d : Nat} (hy : tx y ≠ []) (hz : tx z = [d]) : (Txt.item y 0 == z) = ((tx y).head? == some d) := by
  obtain ⟨c, r, e⟩ := List.exists_cons_of_ne_nil hy
  rw [show (0 : Int) = ((0 : Nat) : Int) from rfl, item_tx (c := c) (by rw [e]; rfl), eq_str, hz, e]
  show decide ([c] = [d]) = _
  rw [Bool.eq_iff_iff]
  simp
theorem plus_in (z : Str) : (occurrences z (Str.ofString "+") 0 z.length 1).isEmpty = !decide (43 ∈ tx z) := by
  rw [show Str.ofString "+" = ⟨#[43]⟩ by decide +kernel, occ_tx]
  by_cases h : 43 ∈ tx z
  · rw [if_pos h, decide_eq_true h]; rfl
  · rw [if_neg h, decide_eq_false h]; rfl
theorem two_of {l : List (Str × Tok)} {L : List Str} {a b : List Nat} (h : l.map (fun q => q.1) = L) (h2 : L.map tx = [a, b]) : ∃ p t1 q t2, l = [(p, t1), (q, t2)] ∧ tx p = a ∧ tx q = b := by
  subst h
  match l, h2 with
  | [(p, t1), (q, t2)], h2 =>
    simp at h2
    exact ⟨p, t1, q, t2, rfl, h2.1, h2.2⟩
theorem split_plus {l : List (Str × Tok)} {z : Str} (h : l.map (fun q => q.1) = Txt.splitMax z (Str.ofString "+") 1) (hp : (occurrences z (Str.ofString "+") 0 z.length 1).isEmpty = false) :
    ∃ p t1 q t2, l = [(p, t1), (q, t2)] ∧ (tx p, tx q) = cutP (tx z) := by
  have hm : 43 ∈ tx z := by
    rw [plus_in] at hp
    simpa using hp
  have := split1_tx (x := z) hm (by decide +kernel)
  rw [← show Str.ofString "+" = ⟨#[43]⟩ by decide +kernel] at this
  obtain ⟨p, t1, q, t2, e, e1, e2⟩ := two_of h this
  exact ⟨p, t1, q, t2, e, by rw [e1, e2]; rfl⟩
theorem cutP_no {z : Str} (hp : (occurrences z (Str.ofString "+") 0 z.length 1).isEmpty = true) : cutP (tx z) = (tx z, []) := by
  have hm : ∀ a ∈ tx z, (a != 43) = true := fun a ha => by
    rw [plus_in] at hp
    have : 43 ∉ tx z := by simpa using hp
    have : a ≠ 43 := fun e => this (e ▸ ha)
    simpa using this
  unfold cutP
  have e1 := List.takeWhile_append_of_pos (p := (· != 43)) (l₁ := tx z) (l₂ := []) hm
  have e2 := List.dropWhile_append_of_pos (p := (· != 43)) (l₁ := tx z) (l₂ := []) hm
  rw [List.append_nil] at e1 e2
  rw [e1, e2]; simp
theorem slice1 (y : Str) : tx (Txt.slice y (some 1) none) = (tx y).drop 1 := slice_from y 1
theorem head_ne {b : Bool} {c d : Nat} {r : List Nat} (h : b = ((c :: r).head? == some d)) (hb : b = false) : c ≠ d := by
  rw [hb] at h
  simpa using h.symm
theorem head_eq {b : Bool} {c d : Nat} {r : List Nat} (h : b = ((c :: r).head? == some d)) (hb : b = true) : c = d := by
  rw [hb] at h
  simpa using h.symm
section
variable {w : World} {loose : List Str} {mg mb : Str → Option Value} {mean : ExcName → Option Value} {A : Around} {s : Shared}
theorem Ver.down {G G2 h : Heap} {x : Addr} {D0 : List Nat} {g1 g2 P B : Option (List Nat)} {b : Bool} (v : Ver w G2 h x D0 g1 g2 P B b) (k : ∀ b o, G.get? b = some o → G2.get? b = some o) : Ver w G h x D0 g1 g2 P B b := by
  obtain ⟨dx, k', v1, v2, v3, vp, vb, c1, c2, t1, t2, t3, t4, t5, t6, t7, t8, pre, bld, a1, a2, a3, a4, a5, a6, a7, a8, a9, b1, b2, b3, b4⟩ := v
  exact ⟨dx, k', v1, v2, v3, vp, vb, c1, c2, t1, t2, t3, t4, t5, t6, t7, t8, pre, bld, a1, a2, a3, a4, a5, a6, a7, a8, a9, none_down k b1, none_down k b2, fun a e => none_down k (b3 a e), fun a e => none_down k (b4 a e)⟩
/-- a version made where coerce stands: it is handed on, or its refusal leaves -/
theorem ver_ret {base h2 : Heap} {outer : List Env} {L : Addr} {m : Str → Option Value} {cn : Str} {cs : Scope} {a : Addr} {cd : Value} {tk2 : Nat} {gs2 : Array GenState} {qa qb : Array Value} (G : Gd w loose mg mb mean A base outer s) (F : Fr (gnd s.heap) L h2 m) (n1 : (335 : Addr) ≠ L) (n2 : (392 : Addr) ≠ L)
    (e1 : h2.get? 335 = some (tabObj qa)) (e2 : h2.get? 392 = some (tabObj qb)) (tra : TriplesOk qa.toList) (trb : TriplesOk qb.toList) (gb : AllBare gs2) (hd : A.depth < 440) (hh : A.handled = none) (hk : cs.kind = .function)
    {x : List Nat} {V : Str} {tv : Tok} {b : Bool} (hx : x.length ≤ 200) (hne : (openL 3 x).1 ≠ []) (hV : tx V = verL (coNums b x) (optL (preL x)) (optL (bldL x))) :
    codeAny (model PR w) (A.deeper (envOf cn cs L a cd)) (.call (.ref 457) ⟨[.str V tv], [(Str.ofString "partial", .bool b)]⟩) (fun r s' =>
      (∃ e, r = .error (.ref e) ∧ ∀ E : Value → Shared → Prop, wpAny (model PR w) (A.deeper (envOf cn cs L a cd)) (leaving (envOf cn cs L a cd) (.ref e)) (fun _ s'' => MayT (badC x) base outer s (fun v h' => ∃ a D0 rs, v = .ref a ∧ coNums b x = D0 :: rs ∧ Ver w (gnd s.heap) h' a D0 rs[0]? rs[1]? (optL (preL x)) (optL (bldL x)) b) (.error (.ref e)) s'') E s') ∨
      (∃ v, r = .ok (.ret v) ∧ MayT (badC x) base outer s (fun v h' => ∃ a D0 rs, v = .ref a ∧ coNums b x = D0 :: rs ∧ Ver w (gnd s.heap) h' a D0 rs[0]? rs[1]? (optL (preL x)) (optL (bldL x)) b) (.ok (.ret v)) s'))
      { s with heap := h2, toks := tk2, gens := gs2 } := by
  have FG := fr_gnd F n1 n2
  have G2 : Gd w loose mg mb mean (A.deeper (envOf cn cs L a cd)) base (envOf cn cs L a cd :: outer) { s with heap := h2, toks := tk2, gens := gs2 } :=
    ⟨G.C.keeps FG.keep, G.B.push FG hk, ⟨qa, e1, tra⟩, ⟨qb, e2, trb⟩, gb⟩
  obtain ⟨D0, rs, hD⟩ := List.exists_cons_of_ne_nil (show coNums b x ≠ [] by unfold coNums; simpa using rows_ne hne)
  have hlen := coNums_len (b := b) (x := x)
  rw [hD, List.length_cons] at hlen
  have hVl : V.length ≤ 300 := by
    have := ver_len (b := b) hne
    rw [← tx_len, hV]; omega
  have hV8 : ∀ c ∈ tx V, c < 128 := fun c hc => by
    rw [hV] at hc
    unfold verL at hc
    rcases List.mem_append.mp hc with hc | hc
    · have : ∀ {l : List (List Nat)}, (∀ D ∈ l, isNum D) → ∀ c ∈ joinL 46 l, c < 128 := by
        intro l
        induction l with
        | nil => intro _ c hc; cases hc
        | cons D r ih =>
          intro h c hc
          have dg : ∀ c ∈ D, c < 128 := fun c hc => by
            have := (h D (.head _)).2 c hc
            unfold isDig at this; simp at this; omega
          cases r with
          | nil => exact dg c hc
          | cons E t =>
            rcases List.mem_append.mp (show c ∈ D ++ 46 :: joinL 46 (E :: t) from hc) with hc | hc
            · exact dg c hc
            · rcases List.mem_cons.mp hc with rfl | hc
              · decide
              · exact ih (fun X hX => h X (.tail _ hX)) c hc
      exact this (fun D hD => (coNums_ok hx D hD).1) c hc
    · rw [tailL_opt] at hc
      rcases List.mem_append.mp hc with hc | hc
      · split at hc
        · cases hc
        · rcases List.mem_cons.mp hc with rfl | hc
          · decide
          · exact tail_128 (pre_tail x) c hc
      · split at hc
        · cases hc
        · rcases List.mem_cons.mp hc with rfl | hc
          · decide
          · exact tail_128 (bld_tail x) c hc
  rw [hD] at hV
  refine codeAny_mono (ver_spec G2 (by rw [depth_deeper]; omega) hh hVl hV8 hV (fun D h => coNums_ok (b := b) hx D (hD ▸ h)) (by omega) (fun e => by have := hlen.2 e; omega) (optL_tl (pre_tail x)) (optL_tl (bld_tail x))) fun r s' hr => ?_
  unfold MayT at hr
  cases hc : refused (optL (preL x)) (optL (bldL x)) with
  | true =>
    rw [hc, if_pos rfl] at hr
    obtain ⟨e, t, vs, h', tk, gs, q1, q2, rfl, rfl, gg, R, U, t1, t2⟩ := hr
    exact .inl ⟨e, rfl, fun E => leave_onS G.B FG R U fun h'' R' _ U' => MayT.err (by rw [bad_eq hne]; exact hc) ⟨e, t, vs, h'', tk, gs, q1, q2, rfl, rfl, gg, R', U', t1, t2⟩⟩
  | false =>
    rw [hc, if_neg (by decide)] at hr
    obtain ⟨v, h', tk, gs, rfl, rfl, gg, ⟨xo, rfl, p⟩, kk, tt⟩ := hr
    exact .inr ⟨_, rfl, MayT.ok (by rw [bad_eq hne]; exact hc) ⟨_, h', tk, gs, rfl, rfl, gg, ⟨xo, D0, rs, rfl, hD, p.down FG.keep⟩, fun b o hb e => kk b o hb (F.keep b o (le_gnd e (fun q => hb (by simp [q])) (fun q => hb (by simp [q])))), tt⟩⟩
end
end Mine
end
section
set_option maxRecDepth 100000
namespace Mine
open PySem PySem.W PyProof.Rows PySem.Calls PySem.Builtin PySem.Builtin.Str
/-- tokens only grow -/
theorem wp_toks {X : Type} {post : X → Pos → Shared → Prop} {exc : Value → Pos → Shared → Prop} (model : Model) (ctx : PySem.Ctx) (tree : Sem X) (n : Nat) (pos : Pos) (sh : Shared) (hn : n ≤ sh.toks)
    (known : Sem.wp model ctx tree post exc pos sh) : Sem.wp model ctx tree (fun x p s' => post x p s' ∧ n ≤ s'.toks) (fun x p s' => exc x p s' ∧ n ≤ s'.toks) pos sh := by
  revert known
  induction tree generalizing pos sh with
  | pure x => exact fun h => ⟨h, hn⟩
  | raise v => exact fun h => ⟨h, hn⟩
  | unsupported | finish | yield | fork | await | register => exact id
  | rule _ k ih | «at» _ k ih | alloc _ k ih | loadIfAlive _ k ih | point _ k ih | ask k ih | os _ _ k ih | handled _ k ih | newGen _ k ih | stack k ih | thread k ih => exact ih _ _ _ hn
  | fresh k ih => exact ih _ _ _ (Nat.le_succ_of_le hn)
  | load a _ k ih | genState a k ih => exact fun ⟨o, ho, h⟩ => ⟨o, ho, ih _ _ _ hn h⟩
  | update a _ f k ih | choose _ _ k ih => exact fun ⟨ha, h⟩ => ⟨ha, ih _ _ _ hn h⟩
  | call c h g l k ih => exact fun ⟨r, s', hr, hk⟩ => ⟨r, s', hr, ih r pos s' (Nat.le_trans hn hr.toks_le) hk⟩
  | resume g r l k ih => exact fun ⟨res, s', hw, h⟩ => ⟨res, s', hw, ih _ _ _ (Nat.le_trans hn hw.toks_le) h⟩
theorem wpAny_toks {α : Type} {M : Model} {A : Around} {t : Sem α} {Q : α → Shared → Prop} {E : Value → Shared → Prop} {s : Shared} (h : wpAny M A t Q E s) : wpAny M A t (fun a s' => Q a s' ∧ s.toks ≤ s'.toks) (fun e s' => E e s' ∧ s.toks ≤ s'.toks) s :=
  fun Γ p hΓ => wp_toks M Γ t s.toks p s (Nat.le_refl _) (h Γ p hΓ)
theorem wpAny_joinT {M : Model} {A : Around} {E : Value → Shared → Prop} {Q : Flow → Shared → Prop} {t : Sem Flow} {s : Shared} (P : Heap → Prop) (h : wpAny M A t (Jn s P) E s) (k : ∀ h' tk', s.toks ≤ tk' → P h' → Q .next { s with heap := h', toks := tk' }) : wpAny M A t Q E s :=
  wpAny_mono (wpAny_toks h) (fun _ _ ⟨⟨e, h', tk', e2, p⟩, hk⟩ => by subst e e2; exact k h' tk' hk p) fun _ _ e => e.1
end Mine
end
section
set_option maxRecDepth 100000
local macro_rules | `(tactic| k_steps) => `(tactic| ((try dsimp only); repeat' (first | ((fail_if_success (with_reducible show PySem.wpAny _ _ (PySem.pyIter (PySem.Value.ref _)) _ _ _)); (fail_if_success (with_reducible show PySem.wpAny _ _ (PySem.exec (PySem.Stmt.Raise _ _ _) _) _ _ _)); (fail_if_success (with_reducible show PySem.wpAny _ _ (PySem.binaryOp PySem.Operator.Mod _ _) _ _ _)); (fail_if_success (with_reducible show PySem.wpAny _ _ (PySem.assign (PySem.Expr.Tuple _ _ _) _ (PySem.Value.ref _)) _ _ _)); (fail_if_success (with_reducible show PySem.wpAny _ _ ((PySem.call (PySem.Value.ref _) _ _)) _ _ _)); (fail_if_success (with_reducible show PySem.wpAny _ _ ((PySem.getMethod (PySem.Value.ref 53) _ _)) _ _ _)); (fail_if_success (with_reducible show PySem.wpAny _ _ ((PySem.getMethod (PySem.Value.ref 58) _ _)) _ _ _)); (fail_if_success (with_reducible show PySem.wpAny _ _ ((PySem.getMethod (PySem.Value.ref _) (PySem.Str.ofString "end") _)) _ _ _)); (fail_if_success (with_reducible show PySem.wpAny _ _ ((PySem.call (PySem.Value.builtin "re.Pattern.match") _ _)) _ _ _)); (fail_if_success (with_reducible show PySem.wpAny _ _ ((PySem.call (PySem.Value.builtin "re.Match.end") _ _)) _ _ _)); (fail_if_success (with_reducible show PySem.wpAny _ _ ((PySem.call (PySem.Value.builtin "re.Pattern.sub") _ _)) _ _ _)); (fail_if_success (with_reducible show PySem.wpAny _ _ ((PySem.truthy (PySem.Value.ref _))) _ _ _)); (fail_if_success (with_reducible show PySem.wpAny _ _ ((PySem.eval (PySem.Expr.GeneratorExp _ _ _ _) _)) _ _ _)); (fail_if_success (with_reducible show PySem.wpAny _ _ (PySem.exec (PySem.Stmt.While _ _ _ _) _) _ _ _)); first | (with_reducible refine PySem.wpAny_execs_cons ?_) | ((try dsimp only); walk1)) | fail "no step")))
local macro_rules | `(tactic| tb_rel) => `(tactic| ((try dsimp only); repeat' (first | ((fail_if_success (with_reducible show PySem.wpAny _ _ (PySem.exec (PySem.Stmt.If _ _ _ _) _) _ _ _)); (fail_if_success (with_reducible show PySem.wpAny _ _ (PySem.pyIter (PySem.Value.ref _)) _ _ _)); (fail_if_success (with_reducible show PySem.wpAny _ _ (PySem.exec (PySem.Stmt.Raise _ _ _) _) _ _ _)); (fail_if_success (with_reducible show PySem.wpAny _ _ (PySem.binaryOp PySem.Operator.Mod _ _) _ _ _)); (fail_if_success (with_reducible show PySem.wpAny _ _ (PySem.assign (PySem.Expr.Tuple _ _ _) _ (PySem.Value.ref _)) _ _ _)); (fail_if_success (with_reducible show PySem.wpAny _ _ ((PySem.call (PySem.Value.ref _) _ _)) _ _ _)); (fail_if_success (with_reducible show PySem.wpAny _ _ ((PySem.getMethod (PySem.Value.ref 53) _ _)) _ _ _)); (fail_if_success (with_reducible show PySem.wpAny _ _ ((PySem.getMethod (PySem.Value.ref 58) _ _)) _ _ _)); (fail_if_success (with_reducible show PySem.wpAny _ _ ((PySem.getMethod (PySem.Value.ref _) (PySem.Str.ofString "end") _)) _ _ _)); (fail_if_success (with_reducible show PySem.wpAny _ _ ((PySem.call (PySem.Value.builtin "re.Pattern.match") _ _)) _ _ _)); (fail_if_success (with_reducible show PySem.wpAny _ _ ((PySem.call (PySem.Value.builtin "re.Match.end") _ _)) _ _ _)); (fail_if_success (with_reducible show PySem.wpAny _ _ ((PySem.call (PySem.Value.builtin "re.Pattern.sub") _ _)) _ _ _)); (fail_if_success (with_reducible show PySem.wpAny _ _ ((PySem.truthy (PySem.Value.ref _))) _ _ _)); (fail_if_success (with_reducible show PySem.wpAny _ _ ((PySem.eval (PySem.Expr.GeneratorExp _ _ _ _) _)) _ _ _)); (fail_if_success (with_reducible show PySem.wpAny _ _ (PySem.exec (PySem.Stmt.While _ _ _ _) _) _ _ _)); first | (with_reducible refine PySem.wpAny_execs_cons ?_) | ((try dsimp only); walk1)) | fail "no step")))
local macro_rules | `(tactic| k_handed) => `(tactic| assumption)
namespace Mine
open PySem PySem.W PyProof.Rows PySem.Calls
local macro_rules | `(tactic| tb_start) => `(tactic| (have X := Ctx.K (by assumption); revert X; delta PR; k_fill; intro X; refine' enter (by assumption) (by k_is) (by k_is) (Nat.lt_trans (by assumption) (by decide)) ?hb (locs ?hl) ?_ rfl rfl rfl (by decide)))
variable {w : World} {loose : List Str} {mg mb : Str → Option Value} {mean : ExcName → Option Value} {A : Around} {s : Shared} {E : Value → Shared → Prop}
local macro_rules | `(tactic| walk_at "leaving ref") => `(tactic| ((refine' leave_raiseS ?k1 ?k0 ?k2 ?k3 ?_; (case k0 => first | assumption | exact Heap.MadeExc.of (by assumption)); (case k1 => assumption); (case k2 => assumption); (case k3 => assumption)); intro h' t' RS' R' U'; clear R'; (try dsimp only at RS' U' ⊢)))

local macro_rules | `(tactic| ktr_unf) => `(tactic| ((try dsimp only); repeat' (first | ((fail_if_success (with_reducible show PySem.wpAny _ _ (PySem.eval (PySem.Expr.Name _ _) _) _ _ _)); (fail_if_success (with_reducible show PySem.wpAny _ _ (PySem.call _ _ _) _ _ _)); ((try dsimp only); walk1)) | fail "no step")))

theorem truthy_tx {prog : Program} {A : Around} {y : Str} {t : Tok} {Q : Bool → Shared → Prop} (hl : y.length ≤ 1000) (h : ∀ tk, Q (!(tx y).isEmpty) { s with toks := tk }) : wpAny (model prog w) A (truthy (.str y t)) Q E s := by
  have e : ((y.length : Int) != 0) = !(tx y).isEmpty := by
    rw [← tx_len]
    cases tx y with
    | nil => rfl
    | cons a r => simp; omega
  refine P.truthy_str (by omega) ?_
  rw [e]; exact h _
def kwOf (b : Bool) : List (Str × Value) := if b then [(Str.ofString "partial", .bool true)] else []
def Coerced (w : World) (G : Heap) (x : List Nat) (b : Bool) (v : Value) (h : Heap) : Prop :=
  ∃ a D0 rs, v = .ref a ∧ coNums b x = D0 :: rs ∧ Ver w G h a D0 rs[0]? rs[1]? (optL (preL x)) (optL (bldL x)) b
set_option maxHeartbeats 4000000 in
theorem coerce_spec {base : Heap} {outer : List Env} (G : Gd w loose mg mb mean A base outer s) (hd : A.depth < 440) (hh : A.handled = none) {x : Str} {tt : Tok} {b : Bool}
    (hx : x.length ≤ 200) (hp : ∀ c ∈ tx x, c < 128) :
    codeAny (model PR w) A (.call (.ref 340) ⟨[.ref 457, .str x tt], kwOf b⟩) (MayT (badC (tx x)) base outer s (Coerced w (gnd s.heap) (tx x) b)) s := by
  have C0 := G.C.keeps gnd_le
  obtain ⟨q1, u1, tr1⟩ := G.t1
  obtain ⟨q2, u2, tr2⟩ := G.t2
  have b1 := root_none G.B (.inl rfl)
  have b2 := root_none G.B (.inr rfl)
  (have X := C0.K; revert X; delta PR; k_fill; intro X; refine' enter (binds := [(Str.ofString "cls", Value.ref 457), (Str.ofString "version_string", .str x tt), (Str.ofString "partial", .bool b)]) C0 (by k_is) (by k_is) (Nat.lt_trans hd (by decide)) ?hb (locs ?hl) ?_ rfl rfl rfl (by decide))
  case hb => cases b <;> exact kp_binds (K := KK w.params) C0.K (fun S => rfl)
  case hl => rfl
  intro L h₁ tk hL htk F C'
  obtain ⟨F2, N2⟩ := to_gnd F (News.nil (L := L)) u1 u2
  clear F C' X C0
  have C := G.C
  have X := C.K
  revert X; k_fill; intro X
  have T := C.T
  have BL := G.B
  simp only [List.nil_append] at N2
  have n1 : (335 : Addr) ≠ L := (N2 _ (.head _)).2.1
  have n2 : (392 : Addr) ≠ L := (N2 _ (.tail _ (.head _))).2.1
  k_steps
  refine getMethod_pat (pat_base (C.keeps F2.keep).K) (dict_base (C.keeps F2.keep).K) ?_
  k_steps
  have hlim : x.cps.size ≤ 4294967295 := Nat.le_trans hx (by decide)
  by_cases hs : (tx x).takeWhile isDig = []
  · obtain ⟨n, hn, hf⟩ := base_none (t := x.cps) hp hlim hs
    refine call_match_no (pat_base (C.keeps F2.keep).K) (Nat.le_trans hx (by decide)) (Nat.le_trans hn (by decide)) hf ?_
    k_steps
    rename Fr _ _ _ _ => F3
    refine raise_VE C F3 hh ?_
    k_steps
    refine mod_lacks hp (Nat.le_trans hx (by decide)) fun T' t' k' => ?_
    k_steps
    have bad : badC (tx x) = true := by unfold badC; rw [openL_none (by decide) hs]; rfl
    exact MayT.err bad ⟨_, _, _, _, _, _, q1, q2, rfl, rfl, G.g, ‹RaisedS _ _ _ _ _ _ _ _ _›, ‹_›, tr1, tr2⟩
  · obtain ⟨e, he, hde, hev⟩ := base_run (t := x.cps) hp hlim hs
    refine call_match_yes (pat_base (C.keeps F2.keep).K) (Nat.le_trans hx (by decide)) (by decide) hev (by decide) rfl fun li => ?_
    have F4 := F2.push (spanTup (spansOf 0 e #[] (-1) 0))
    have N4 := News.push F2 N2 (spanTup (spansOf 0 e #[] (-1) 0)) rfl
    have F5 := F4.push (matchObj x tt 53 h₁.objs.size li)
    have N5 := News.push F4 N4 (matchObj x tt 53 h₁.objs.size li) rfl
    rw [Heap.size_push] at N5
    have hne : (openL 3 (tx x)).1 ≠ [] := openL_ne (by decide) hs
    have hjoin := openL_join 3 (tx x) hne
    have htake : (tx x).take e = joinL 46 (openL 3 (tx x)).1 := by
      have h1 : (tx x).take e ++ (tx x).drop e = tx x := List.take_append_drop _ _
      rw [show (tx x).drop e = (openL 3 (tx x)).2 from hde] at h1
      exact List.append_cancel_right (h1.trans hjoin.symm)
    have hl1 : 335 < h₁.objs.size := Heap.lt_size (N2 _ (.head _)).1
    have hl2 : 392 < h₁.objs.size := Heap.lt_size (N2 _ (.tail _ (.head _))).1
    have hl3 : h₁.objs.size < h₁.objs.size + 1 := Nat.lt_succ_self _
    generalize (h₁.push (spanTup (spansOf 0 e #[] (-1) 0))).push (matchObj x tt 53 h₁.objs.size li) = h4 at F5 N5 ⊢
    generalize h₁.objs.size + 1 = mo at N5 hl3 ⊢
    generalize h₁.objs.size = sp at N5 hl1 hl2 hl3 ⊢
    clear F4 N4 F2 N2
    k_steps
    have mat : ∀ {hq : Heap}, News (gnd s.heap) L hq [(mo, matchObj x tt 53 sp li), (sp, spanTup (spansOf 0 e #[] (-1) 0)), (335, tabObj q1), (392, tabObj q2)] → Mat hq mo x tt (spansOf 0 e #[] (-1) 0) := fun N => ⟨⟨53, sp, li, (N _ (.head _)).1, (N _ (.tail _ (.head _))).1⟩⟩
    refine truthy_match (mat (by assumption)) ?_
    k_steps
    refine getMethod_end (mat (by assumption)) ?_
    k_steps
    refine call_end (a := rawInt 0) (r := []) (mat (by assumption)) ?_
    tb_rel
    rename Fr _ _ _ _ => F6
    rename News _ _ _ _ => N6
    have rn := openL_nums 3 (tx x)
    have rl := openL_len 3 (tx x)
    refine wpAny_join (fun h' => ∃ m' V tv, Fr (gnd s.heap) L h' m' ∧ News (gnd s.heap) L h' [(mo, matchObj x tt 53 sp li), (sp, spanTup (spansOf 0 e #[] (-1) 0)), (335, tabObj q1), (392, tabObj q2)] ∧ m' (Str.ofString "cls") = some (.ref 457) ∧ m' (Str.ofString "version_string") = some (.str x tt) ∧ m' (Str.ofString "partial") = some (.bool b) ∧ m' (Str.ofString "match") = some (.ref mo) ∧
      m' (Str.ofString "version") = some (.str V tv) ∧ tx V = joinL 46 (rowsB b (openL 3 (tx x)).1)) ?_ ?_
    · cases b
      · k_steps
        rename Fr _ _ _ _ => F7
        rename News _ _ _ _ => N7
        refine While_inv2 (fun n m nx => ∃ V tv j, nx = [(mo, matchObj x tt 53 sp li), (sp, spanTup (spansOf 0 e #[] (-1) 0)), (335, tabObj q1), (392, tabObj q2)] ∧ m (Str.ofString "cls") = some (.ref 457) ∧ m (Str.ofString "version_string") = some (.str x tt) ∧ m (Str.ofString "partial") = some (.bool false) ∧ m (Str.ofString "match") = some (.ref mo) ∧
          m (Str.ofString "version") = some (.str V tv) ∧ tx V = joinL 46 ((openL 3 (tx x)).1 ++ List.replicate j [48]) ∧ j + n = 3 - (openL 3 (tx x)).1.length) (n₀ := 3 - (openL 3 (tx x)).1.length) F7 N7 ?_ ?_
        · exact ⟨_, _, 0, rfl, rfl, rfl, rfl, rfl, rfl, by rw [slice_to, htake]; simp, by omega⟩
        · rintro n m1 news1 h1 tk1 F8 N8 ⟨V, tv, j, rfl, e1, e2, e3, e4, e5, hV, hj⟩
          have F9 := explL F8 [(_, _), (_, _), (_, _), (_, _), (_, _)] (by simp only [List.forall_mem_cons]; exact ⟨e1, e2, e3, e4, e5, List.forall_mem_nil _⟩)
          clear F8 F7 N7
          have hc := joinL_count (l := (openL 3 (tx x)).1 ++ List.replicate j [48]) (by simp [hne]) (rows_rep _ _ rn)
          rw [← hV, List.length_append, List.length_replicate] at hc
          have hct := count_tx V
          have hVl : V.length ≤ 300 := by
            rw [← tx_len, hV, rep_len hne]
            have := join_le hne
            rw [tx_len] at this
            omega
          k_steps
          · rename Fr _ _ _ _ => FA
            rename News _ _ _ _ => NA
            refine ⟨_, _, _, _, n - 1, rfl, FA, NA, by omega, V ++ Str.ofString ".0", _, j + 1, rfl, rfl, rfl, rfl, rfl, rfl, ?_, by omega⟩
            rw [tx_append, hV, rep_succ, joinL_snoc (by simp [hne])]
            rfl
          · refine Jn.intro ⟨_, V, tv, F9, N8, rfl, rfl, rfl, rfl, rfl, ?_⟩
            rw [hV]
            have : j = 3 - (openL 3 (tx x)).1.length := by omega
            rw [this]; rfl
      · k_steps
        rename Fr _ _ _ _ => F7
        rename News _ _ _ _ => N7
        exact Jn.intro ⟨_, _, _, F7, N7, rfl, rfl, rfl, rfl, rfl, by rw [slice_to, htake]; rfl⟩
    · rintro h2 tk2 ⟨m', V, tv, F7, N7, e1, e2, e3, e4, e5, hV⟩
      have F8 := explL F7 [(_, _), (_, _), (_, _), (_, _), (_, _)] (by simp only [List.forall_mem_cons]; exact ⟨e1, e2, e3, e4, e5, List.forall_mem_nil _⟩)
      clear F7 F6 N6
      have hVl : V.length ≤ 220 := by
        rw [← tx_len, hV]
        have h1 := join_le hne
        rw [tx_len] at h1
        cases b
        · show (joinL 46 ((openL 3 (tx x)).1 ++ List.replicate _ [48])).length ≤ _
          rw [rep_len hne]; omega
        · exact Nat.le_trans h1 (by omega)
      k_steps
      refine genexp_rule (c := 339) (P := 335) (cl := []) T ?a1 ?a2 gnd_none1 hh ?a3 ?a4 ?a5 ?a6 ?a7 ?a8 ?a9 ?_ ?a10
      case a1 => with_unfolding_all rfl
      case a2 => with_unfolding_all rfl
      case a3 => with_unfolding_all rfl
      case a4 => with_unfolding_all rfl
      case a5 => decide
      case a6 => with_unfolding_all rfl
      case a7 => with_unfolding_all rfl
      case a8 => with_unfolding_all rfl
      case a9 => rw [depth_deeper]; exact Nat.lt_trans (Nat.succ_lt_succ hd) (by decide)
      case a10 => intro _; with_unfolding_all rfl
      k_steps
      rename List (Str × Tok) => l
      have hmap := ‹List.map (fun q : Str × Tok => q.1) l = Txt.split _ _›
      have hb1 := ‹∀ a ∈ List.map (fun q : Str × Tok => q.1) l, a.length ≤ _›
      rename Fr _ _ _ _ => F9
      rename News _ _ _ _ => N9
      have hl4 : l.length ≤ 400 := by have := len_le_of_split hmap; omega
      have tab := TabP.toTab (c := 339) (codeC_at (C.keeps F9.keep).K) (N9 _ (.tail _ (.tail _ (.tail _ (.head _))))).1 tr1
      refine (show Hold _ from ⟨_, _, fun i y => ∃ t, y = .str (itemF l i) t, rfl, .inr (by assumption), tab, G.g, F9.keep, ?_, ?_⟩)
      · intro code C2 A' E' i v s₂ m₂ a1 a2 a3 hv hns hm hk
        obtain ⟨y, ty, rfl, q, hq, hy⟩ : ∃ y ty, v = .str y ty ∧ ∃ q, l[i]? = some q ∧ q.1 = y := by
          simp only [strValues, List.getElem?_toArray, List.getElem?_map, Option.map_eq_some_iff] at hv
          obtain ⟨q, hq, rfl⟩ := hv
          exact ⟨_, _, rfl, q, hq, rfl⟩
        have hyl : y.length ≤ 300 := by
          have := hb1 q.1 (List.mem_map_of_mem (List.mem_of_getElem? hq))
          rw [hy] at this; omega
        have C3 := C.keeps hk
        have T := C3.T
        have X := C3.K
        revert X; k_fill; intro X
        ktr_unf
        refine wpAny_Name (wpAny_loadName_local rfl rfl hns hm ?_)
        ktr_unf
        refine SC.lstripChars (fun t' k => ?_) (Nat.le_trans hyl (by decide))
        have hfi : itemF l i = nzS y := by unfold itemF; rw [hq]; show nzS q.1 = _; rw [hy]
        ktr_unf
        refine truthy_tx (Nat.le_trans (len_lstripChars y _) (Nat.le_trans hyl (by decide))) fun tk' => ?_
        cases he2 : (tx (Txt.lstripChars y (Str.ofString "0"))).isEmpty
        · rw [Bool.not_false, if_pos rfl]
          refine ⟨⟨t', congrArg (fun z => Value.str z _) ?_⟩, ⟨_, _, rfl, fun _ _ e => e⟩⟩
          rw [hfi]; unfold nzS; rw [he2, if_neg (by decide)]
        · rw [Bool.not_true, if_neg (by decide)]
          ktr_unf
          all_goals first | (rw [hfi]; unfold nzS; rw [he2, if_pos rfl]; done) | exact ⟨_, _, rfl, fun _ _ e => e⟩
      · intro a s₅ k5 tab5 G5 o5 d5 X5
        ktr_unf
        rw [show (strValues l).toArray.size = l.length by simp [strValues]] at X5
        have hitem : ∀ y ∈ l.map (fun q => nzS q.1), y.length ≤ 300 := fun y hy => by
          obtain ⟨q, hq, rfl⟩ := List.mem_map.mp hy
          have := hb1 q.1 (List.mem_map_of_mem hq)
          have := nzS_len q.1
          omega
        refine join_genR X5 hl4 G5 (itemF l) (fun j v h => h) (by rw [itemF_all]; exact joinOk_of hitem (by rw [List.length_map, show (Str.ofString ".").length = 1 from by decide +kernel]; omega)) fun s' t' k6 G6 o6 d6 => ?_
        obtain ⟨h6, g6, dr6, t6, os6⟩ := s'
        obtain ⟨h5, g5, dr5, t5, os5⟩ := s₅
        dsimp only at k5 tab5 G5 o5 d5 k6 G6 o6 d6 ⊢
        subst o6 d6
        subst o5 d5
        have k56 : ∀ b o, b ≠ 335 → _ = some o → h6.get? b = some o := fun b o hb e => k6 b o (by rw [e]; rfl) (k5 b o hb e)
        obtain ⟨q5, e5, tr5⟩ := tab5.toP
        have e6 := k6 335 _ (by rw [(N9 _ (.tail _ (.tail _ (.tail _ (.head _))))).1]; rfl) e5
        have FA := Fr.but F9 gnd_none1 n1 k56
        have NA : News (gnd s.heap) L h6 [(mo, matchObj x tt 53 sp li), (sp, spanTup (spansOf 0 e #[] (-1) 0)), (335, tabObj q5), (392, tabObj q2)] := fun p hp => by
          rcases List.mem_cons.mp hp with rfl | hp
          · exact ⟨k56 _ _ (ne_tab (N9 _ (.tail _ (.head _))).1 (N9 _ (.tail _ (.tail _ (.tail _ (.head _))))).1 (by intro e; cases e)) (N9 _ (.tail _ (.head _))).1, (N9 _ (.tail _ (.head _))).2⟩
          rcases List.mem_cons.mp hp with rfl | hp
          · exact ⟨k56 _ _ (ne_tab (N9 _ (.tail _ (.tail _ (.head _)))).1 (N9 _ (.tail _ (.tail _ (.tail _ (.head _))))).1 (by intro e; cases e)) (N9 _ (.tail _ (.tail _ (.head _)))).1, (N9 _ (.tail _ (.tail _ (.head _)))).2⟩
          rcases List.mem_cons.mp hp with rfl | hp
          · exact ⟨e6, (N9 _ (.tail _ (.tail _ (.tail _ (.head _))))).2⟩
          · rw [List.mem_singleton.mp hp]
            exact ⟨k56 _ _ (show (392 : Addr) ≠ 335 by decide) (N9 _ (.tail _ (.tail _ (.tail _ (.tail _ (.head _)))))).1, (N9 _ (.tail _ (.tail _ (.tail _ (.tail _ (.head _)))))).2⟩
        have hV2 : tx (Txt.join (Str.ofString ".") ((List.range l.length).map (itemF l))) = joinL 46 (coNums b (tx x)) := by
          rw [Txt.join, StrLaws.glued_eq_join, tx_join (c := 46) (by decide +kernel), itemF_all, List.map_map]
          have h1 : l.map (fun q => tx q.1) = rowsB b (openL 3 (tx x)).1 := by
            have h2 : l.map (fun q => tx q.1) = splitL 46 (tx V) := by
              rw [← split_tx V (Str.ofString ".") 46 (by decide +kernel), ← hmap, List.map_map]; rfl
            rw [h2, hV, splitL_join (rows_ne hne) (fun D hD hm => by have := (rows_num D hD).2 46 hm; revert this; decide)]
          unfold coNums
          rw [← h1, List.map_map]
          congr 1
          exact List.map_congr_left fun q _ => nzS_tx q.1
        generalize Txt.join (Str.ofString ".") ((List.range l.length).map (itemF l)) = V2 at hV2 ⊢
        clear F9 N9 k5 k6 k56 tab5 X5 G5
        k_steps
        have mat2 : ∀ {hq : Heap}, News (gnd s.heap) L hq [(mo, matchObj x tt 53 sp li), (sp, spanTup (spansOf 0 e #[] (-1) 0)), (335, tabObj q5), (392, tabObj q2)] → Mat hq mo x tt (spansOf 0 e #[] (-1) 0) := fun N => ⟨⟨53, sp, li, (N _ (.head _)).1, (N _ (.tail _ (.head _))).1⟩⟩
        refine getMethod_end (mat2 (by assumption)) ?_
        k_steps
        refine call_end (a := rawInt 0) (r := []) (mat2 (by assumption)) ?_
        tb_rel
        · rename Fr _ _ _ _ => FB
          rename News _ _ _ _ => NB
          have hr0 : (openL 3 (tx x)).2 = [] := by
            rw [← show (tx x).drop e = (openL 3 (tx x)).2 from hde]
            exact List.drop_of_length_le (by rw [tx_len]; omega)
          have hpl : preL (tx x) = [] := by unfold preL; rw [hr0]; rfl
          have hbl : bldL (tx x) = [] := by unfold bldL; rw [hr0]; rfl
          refine wpAny_call (codeAny_mono (ver_ret (s := s) (gs2 := g6) (x := tx x) (b := b) G FB n1 n2 (NB _ (.tail _ (.tail _ (.head _)))).1 (NB _ (.tail _ (.tail _ (.tail _ (.head _))))).1 tr5 tr2 G6 hd hh rfl (by rw [tx_len]; exact hx) hne (by rw [hV2, hpl, hbl]; unfold verL tailL optL buildL; simp)) ?_)
          rintro r s' (⟨e, rfl, h⟩ | ⟨v, rfl, h⟩)
          · exact h _
          · exact h
        · refine getMethod_end (mat2 (by assumption)) ?_
          tb_rel
          refine call_end (a := rawInt 0) (r := []) (mat2 (by assumption)) ?_
          tb_rel
          rename Fr _ _ _ _ => FB
          rename News _ _ _ _ => NB
          refine getMethod_sub (pat_rest (C.keeps FB.keep).K) (dict_rest (C.keeps FB.keep).K) ?_
          tb_rel
          rw [show Str.ofString "-" = ⟨#[45]⟩ by decide +kernel]
          have hsl := slice_from x e
          have hle : (Txt.slice x (some (e : Int)) none).length ≤ x.length := ‹_›
          refine call_sub (pat_rest (C.keeps FB.keep).K) (Nat.le_trans hle (Nat.le_trans hx (by decide))) (fun c hc => hp c (List.mem_of_mem_drop (i := e) (by rw [← hsl]; exact hc))) ?_
          intro y ty hy tky hytx kk
          have F9 := FB.keeps kk
          have N9 := News.keeps NB kk
          clear FB NB kk
          rw [hsl, show (tx x).drop e = (openL 3 (tx x)).2 from hde] at hytx
          have he2 : e ≤ x.length := he
          have hyn : tx y ≠ [] := by
            rw [hytx, ← show (tx x).drop e = (openL 3 (tx x)).2 from hde]
            intro h0
            have := congrArg List.length h0
            rw [List.length_map, List.length_drop, tx_len] at this
            simp only [List.length_nil] at this
            omega
          have hyl : y.length ≤ 200 := by
            rw [← tx_len, hytx, List.length_map, ← show (tx x).drop e = (openL 3 (tx x)).2 from hde, List.length_drop, tx_len]
            omega
          have hy0 : 1 ≤ y.length := by
            rw [← tx_len]; exact List.length_pos_iff.mpr hyn
          tb_rel
          refine wpAny_joinT (fun h' => ∃ m' p tp q tq, Fr (gnd s.heap) L h' m' ∧ News (gnd s.heap) L h' [(mo, matchObj x tt 53 sp li), (sp, spanTup (spansOf 0 e #[] (-1) 0)), (335, tabObj q5), (392, tabObj q2)] ∧ m' (Str.ofString "cls") = some (.ref 457) ∧ m' (Str.ofString "partial") = some (.bool b) ∧
            m' (Str.ofString "version") = some (.str V2 t') ∧ m' (Str.ofString "prerelease") = some (.str p tp) ∧ m' (Str.ofString "build") = some (.str q tq) ∧ (tx p, tx q) = cutL (tx y)) ?_ ?_
          · have hp0 : ∀ {z : Str} {d : Nat}, tx z = [d] → (Txt.item y 0 == z) = ((tx y).head? == some d) := fun hz => item0 hyn hz
            obtain ⟨c, r, hcr⟩ := List.exists_cons_of_ne_nil hyn
            have i43 := hp0 (z := Str.ofString "+") (d := 43) (by decide +kernel)
            have i46 := hp0 (z := Str.ofString ".") (d := 46) (by decide +kernel)
            have i45 := hp0 (z := ⟨#[45]⟩) (d := 45) rfl
            rw [hcr] at i43 i46 i45
            have hs1 := slice1 y
            rw [hcr] at hs1 ⊢
            rw [cutL_cons]
            have pl : ∀ p ∈ [(mo, matchObj x tt 53 sp li), (sp, spanTup (spansOf 0 e #[] (-1) 0)), (335, tabObj q5), (392, tabObj q2)], p ∈ [(mo, matchObj x tt 53 sp li), (sp, spanTup (spansOf 0 e #[] (-1) 0)), (335, tabObj q5), (392, tabObj q2)] := fun p h => h
            k_steps
            · rename Fr _ _ _ _ => FF
              rename News _ _ _ _ => NN
              refine Jn.intro ⟨_, _, _, _, _, FF, NN, rfl, rfl, rfl, rfl, rfl, ?_⟩
              rw [if_pos (.inl (head_eq i43 ‹_›)), hs1, tx_nil]; rfl
            · rename Fr _ _ _ _ => FF
              rename News _ _ _ _ => NN
              refine Jn.intro ⟨_, _, _, _, _, FF, NN, rfl, rfl, rfl, rfl, rfl, ?_⟩
              rw [if_pos (.inr (head_eq i46 ‹_›)), hs1, tx_nil]; rfl
            · refine unpackItemsN_ (by assumption) ‹News _ _ _ _› (News.isTup ‹News _ _ _ _› (.head _)) hh rfl fun h9 F9 N9 => ?_
              k_steps
              rename Fr _ _ _ _ => FF
              rename News _ _ _ _ => NN
              refine Jn.intro ⟨_, _, _, _, _, FF, fun p hp => NN p (.tail _ hp), rfl, rfl, rfl, rfl, rfl, ?_⟩
              rw [if_neg (fun q => q.elim (head_ne i43 ‹_›) (head_ne i46 ‹_›)), if_pos (head_eq i45 ‹_›), ← show tx (Txt.slice y (some 1) none) = r from hs1, cutP_no ‹_›, tx_nil]
            · rename List (Str × Tok) => l9
              obtain ⟨p, t1, q, t2, rfl, hpq⟩ := split_plus ‹List.map _ l9 = Txt.splitMax _ _ _› ‹(Builtin.Str.occurrences _ _ _ _ _).isEmpty = false›
              refine kun_list (by assumption) (by assumption) (by assumption) hh rfl rfl fun h9 F9 N9 => ?_
              k_steps
              rename Fr _ _ _ _ => FF
              rename News _ _ _ _ => NN
              refine Jn.intro ⟨_, _, _, _, _, FF, fun p hp => NN p (.tail _ hp), rfl, rfl, rfl, rfl, rfl, ?_⟩
              rw [if_neg (fun q => q.elim (head_ne i43 ‹_›) (head_ne i46 ‹_›)), if_pos (head_eq i45 ‹_›), ← show tx (Txt.slice y (some 1) none) = r from hs1]
              exact hpq
            · refine unpackItemsN_ (by assumption) ‹News _ _ _ _› (News.isTup ‹News _ _ _ _› (.head _)) hh rfl fun h9 F9 N9 => ?_
              k_steps
              rename Fr _ _ _ _ => FF
              rename News _ _ _ _ => NN
              refine Jn.intro ⟨_, _, _, _, _, FF, fun p hp => NN p (.tail _ hp), rfl, rfl, rfl, rfl, rfl, ?_⟩
              rw [if_neg (fun q => q.elim (head_ne i43 ‹_›) (head_ne i46 ‹_›)), if_neg (head_ne i45 ‹_›), ← hcr, cutP_no ‹_›, tx_nil]
            · rename List (Str × Tok) => l9
              obtain ⟨p, t1, q, t2, rfl, hpq⟩ := split_plus ‹List.map _ l9 = Txt.splitMax _ _ _› ‹(Builtin.Str.occurrences _ _ _ _ _).isEmpty = false›
              refine kun_list (by assumption) (by assumption) (by assumption) hh rfl rfl fun h9 F9 N9 => ?_
              k_steps
              rename Fr _ _ _ _ => FF
              rename News _ _ _ _ => NN
              refine Jn.intro ⟨_, _, _, _, _, FF, fun p hp => NN p (.tail _ hp), rfl, rfl, rfl, rfl, rfl, ?_⟩
              rw [if_neg (fun q => q.elim (head_ne i43 ‹_›) (head_ne i46 ‹_›)), if_neg (head_ne i45 ‹_›), ← hcr]
              exact hpq
          · rintro h3 tk3 htk3 ⟨m3, p, tp, q, tq, F3, N3, g1, g2, g3, g4, g5, hpq⟩
            have FC := explL F3 [(_, _), (_, _), (_, _), (_, _), (_, _)] (by simp only [List.forall_mem_cons]; exact ⟨g1, g2, g3, g4, g5, List.forall_mem_nil _⟩)
            clear F3
            have hpre : tx p = preL (tx x) := by
              unfold preL; rw [← hytx, ← hpq]
            have hbld : (tx q).map pt = bldL (tx x) := by
              unfold bldL; rw [← hytx, ← hpq]
            have hcl := cutL_len (tx y)
            rw [← hpq, tx_len, tx_len, tx_len] at hcl
            have hpl : p.length ≤ 200 := by omega
            have hql : q.length ≤ 200 := by omega
            have hu3 : tk3 ≠ 0 := by have : tky + 1 ≤ tk3 := htk3; omega
            have hn2 : V2.length ≤ 300 := by
              rw [← tx_len, hV2]
              have := ver_len (b := b) hne
              unfold verL at this
              rw [List.length_append, tx_len] at this
              omega
            tb_rel
            have hq2 := replace_tx q
            rw [hbld] at hq2
            have hql2 : (Txt.replace q (Str.ofString "+") (Str.ofString ".")).length ≤ 200 := by
              rw [← tx_len, hq2, ← hbld, List.length_map, tx_len]; exact hql
            rename Fr _ _ _ _ => FD
            generalize Txt.replace q (Str.ofString "+") (Str.ofString ".") = q6 at hq2 hql2 FD ⊢
            rename News _ _ _ _ => ND
            refine wpAny_join (fun h' => ∃ m' V3 tv3, Fr (gnd s.heap) L h' m' ∧ News (gnd s.heap) L h' [(mo, matchObj x tt 53 sp li), (sp, spanTup (spansOf 0 e #[] (-1) 0)), (335, tabObj q5), (392, tabObj q2)] ∧ m' (Str.ofString "cls") = some (.ref 457) ∧ m' (Str.ofString "partial") = some (.bool b) ∧
              m' (Str.ofString "version") = some (.str V3 tv3) ∧ (∃ t5, m' (Str.ofString "build") = some (.str q6 t5)) ∧ tx V3 = joinL 46 (coNums b (tx x)) ++ (if (preL (tx x)).isEmpty then [] else 45 :: preL (tx x))) ?_ ?_
            · k_steps
              · rename Fr _ _ _ _ => FE
                rename News _ _ _ _ => NE
                refine Jn.intro ⟨_, _, _, FE, NE, rfl, rfl, rfl, ⟨_, rfl⟩, ?_⟩
                have : preL (tx x) ≠ [] := by rw [← hpre]; intro h0; have := tx_len p; rw [h0] at this; simp at this; omega
                have e2 : (preL (tx x)).isEmpty = false := by simpa using this
                rw [e2, if_neg (by decide), tx_append, tx_append, tx_append, hV2, hpre, show tx (Str.ofString "-") = [45] by decide +kernel, show tx Str.empty = [] from rfl]
                simp
              · refine Jn.intro ⟨_, _, _, FD, ND, rfl, rfl, rfl, ⟨_, rfl⟩, ?_⟩
                have : preL (tx x) = [] := by rw [← hpre]; exact List.length_eq_zero_iff.mp (by rw [tx_len]; omega)
                rw [this, hV2]; simp
            · rintro h4 tk4 ⟨m4, V3, tv3, F3, N3, g1, g2, g3, ⟨t5, g4⟩, hV3⟩
              have FE := explL F3 [(_, _), (_, _), (_, _), (_, _)] (by simp only [List.forall_mem_cons]; exact ⟨g1, g2, g3, g4, List.forall_mem_nil _⟩)
              clear F3 FD ND
              have hn3 : V3.length ≤ 600 := by
                rw [← tx_len, hV3]
                have := ver_len (b := b) hne
                unfold verL at this
                rw [tailL_opt, List.length_append, List.length_append, tx_len] at this
                rw [List.length_append]
                omega
              tb_rel
              rename Fr _ _ _ _ => FG
              refine wpAny_join (fun h' => ∃ m' V4 tv4, Fr (gnd s.heap) L h' m' ∧ News (gnd s.heap) L h' [(mo, matchObj x tt 53 sp li), (sp, spanTup (spansOf 0 e #[] (-1) 0)), (335, tabObj q5), (392, tabObj q2)] ∧ m' (Str.ofString "cls") = some (.ref 457) ∧ m' (Str.ofString "partial") = some (.bool b) ∧
                m' (Str.ofString "version") = some (.str V4 tv4) ∧ tx V4 = verL (coNums b (tx x)) (optL (preL (tx x))) (optL (bldL (tx x)))) ?_ ?_
              · k_steps
                · rename Fr _ _ _ _ => FE
                  rename News _ _ _ _ => NE
                  refine Jn.intro ⟨_, _, _, FE, NE, rfl, rfl, rfl, ?_⟩
                  have : bldL (tx x) ≠ [] := by rw [← hq2]; intro h0; have := tx_len q6; rw [h0] at this; simp at this; omega
                  have e2 : (bldL (tx x)).isEmpty = false := by simpa using this
                  unfold verL
                  rw [tailL_opt, e2, if_neg (by decide : ¬ (false = true)), tx_append, tx_append, tx_append, hV3, hq2, show tx (Str.ofString "+") = [43] by decide +kernel, show tx Str.empty = [] from rfl]
                  simp
                · refine Jn.intro ⟨_, _, _, FG, N3, rfl, rfl, rfl, ?_⟩
                  have : bldL (tx x) = [] := by rw [← hq2]; exact List.length_eq_zero_iff.mp (by rw [tx_len]; omega)
                  unfold verL; rw [tailL_opt, hV3, this]; simp
              · rintro h5 tk5 ⟨m5, V4, tv4, F3, N4, g1, g2, g3, hV4⟩
                have FH := explL F3 [(_, _), (_, _), (_, _)] (by simp only [List.forall_mem_cons]; exact ⟨g1, g2, g3, List.forall_mem_nil _⟩)
                clear F3 FG N3
                k_steps
                rename Fr _ _ _ _ => FB
                rename News _ _ _ _ => NB
                refine wpAny_call (codeAny_mono (ver_ret (s := s) (gs2 := g6) (x := tx x) (b := b) G FB n1 n2 (NB _ (.tail _ (.tail _ (.head _)))).1 (NB _ (.tail _ (.tail _ (.tail _ (.head _))))).1 tr5 tr2 G6 hd hh rfl (by rw [tx_len]; exact hx) hne hV4) ?_)
                rintro r s' (⟨e, rfl, h⟩ | ⟨v, rfl, h⟩)
                · exact h _
                · exact h
end Mine
end
section
set_option maxRecDepth 100000
namespace Mine
open PySem PySem.W PyProof.Rows PySem.Calls
section
variable {prog : Program} {w : World} {A : Around} {E : Value → Shared → Prop} {s : Shared} {h₀ : Heap} {L : Addr} {m : Str → Option Value} {news : List (Addr × Obj)} {env : Env}
theorem comp_list (R : Value → Value → Prop) {elt : Expr} {x : Str} {px pn : Pos} {nn : Str} {scope : Scope} {pos : Pos} {Q : Value → Shared → Prop} {lA : Addr} {items : Array Value}
    (hh : A.handled = none) (hfree : ∀ y ∈ scope.names, y.2 ≠ .free) (hcell : ∀ y ∈ scope.names, y.2 ≠ .cell) (hkind : scope.kind = .function)
    (hnames : ∀ y ∈ scope.names, y.2 = .local → scope.names.lookup y.1 = some .local) (hx : scope.names.lookup x = some .local)
    (F : Fr h₀ L s.heap m) (N : News h₀ L s.heap news) (hl : s.heap.IsList lA items) (hsz : items.size ≤ sizeLine)
    (hit : ∀ {P : Value → Shared → Prop}, P (.ref lA) s → wpAny (model prog w) A (eval (.Name nn pn) env) P E s)
    (helt : ∀ C v s₂ m₂ E', v ∈ items.toList → s₂.heap.Ns (compEnv scope C env).locals m₂ → m₂ x = some v → (∀ b o, s.heap.get? b = some o → s₂.heap.get? b = some o) →
        wpAny (model prog w) A (eval elt (compEnv scope C env)) (fun r s₃ => R v r ∧ Keeps s₂ s₃) E' s₂)
    (hQ : ∀ D n (ys : Array Value) h' tk, Fr h₀ L h' m → News h₀ L h' ((D, listOf ys n) :: news) → Paired R items.toList ys.toList → Q (.ref D) { s with heap := h', toks := tk })
    (hs : ∀ x, foldedSetIterable (.Name nn pn) env x = pure x := by intro _; with_unfolding_all rfl) :
    wpAny (model prog w) A (eval (.ListComp elt [⟨.Name x px, .Name nn pn, [], 0⟩] scope pos) env) Q E s := by
  have hlt : lA < s.heap.objs.size := let ⟨_, e, _⟩ := hl; Heap.lt_size e
  refine wpAny_ListComp_walk (fun _ => true) R hfree hcell hkind hnames hx (hit (wpAny_pyIter_list hl ?_)) hs
  refine ⟨s.heap.objs.size, [s.heap.objs.size, lA], [s.heap.objs.size], items.size, fun i v => items[i]? = some v, _, rfl, Walks.list hh _ lA (Nat.ne_of_lt hlt) items, hsz, ⟨⟨_, Heap.get?_push_size _ rfl, rfl, rfl⟩, hl.push _⟩, ?_, ⟨?_, ?_⟩, ?_⟩
  · intro b hb
    show b < (s.heap.push _).objs.size
    rw [Heap.size_push]
    rcases List.mem_cons.mp hb with rfl | hb
    · exact Nat.lt_succ_self _
    · rw [List.mem_singleton.mp hb]; exact Nat.lt_succ_of_lt hlt
  · intro C i v s₃ m₃ E' hP hn hm hk _
    rw [List.forIn_nil]
    exact wpAny_pure ⟨rfl, ⟨_, _, rfl, fun _ _ e => e⟩⟩
  · intro C i v s₃ m₃ E' hP hp hn hm hk _
    exact helt C v s₃ m₃ E' (by rw [← Array.getElem?_toList] at hP; exact List.mem_of_getElem? hP) hn hm (fun b o' e => hk b o' (old_not_new e) (Heap.get?_push_of_some _ e))
  · intro D h' tk ys vs hnew hlD hplD hlen hP hF hk
    have e1 : vs = items.toList := by
      apply List.ext_getElem?
      intro i
      cases hv : vs[i]? with
      | none =>
        rw [List.getElem?_eq_none_iff] at hv
        rw [eq_comm, List.getElem?_eq_none_iff, Array.length_toList]; omega
      | some v => rw [Array.getElem?_toList, hP i v hv]
    rw [List.filter_eq_self.mpr (fun _ _ => rfl), e1] at hF
    have up : ∀ b o', s.heap.get? b = some o' → h'.get? b = some o' := fun b o' e => hk b o' (old_not_new e) (Heap.get?_push_of_some _ e)
    have X : NewPlain h' news D ys := ⟨hplD, fun p hp e => by rw [← e, Heap.get?_push_of_some _ (N p hp).1] at hnew; cases hnew⟩
    have FF := F.keeps up
    obtain ⟨n, hn⟩ := hplD
    refine hQ D n ys h' tk FF (fun p hp => ?_) hF
    rcases List.mem_cons.mp hp with rfl | hp
    · refine ⟨hn, X.ne_locals FF, ?_⟩
      cases e : h₀.get? D with
      | none => rfl
      | some o' => rw [Heap.get?_push_of_some _ (F.keep _ _ e)] at hnew; cases hnew
    · exact N.grown up p hp
end
end Mine
end
section
set_option maxRecDepth 100000
local macro_rules | `(tactic| k_steps) => `(tactic| ((try dsimp only); repeat' (first | ((fail_if_success (with_reducible show wpAny _ _ (PySem.exec (PySem.Stmt.For _ _ _ _ _) _) _ _ _)); (fail_if_success (with_reducible show wpAny _ _ (PySem.exec (PySem.Stmt.While _ _ _ _) _) _ _ _)); (try dsimp only); walk1) | fail "no step")))
namespace Mine
open PySem PySem.W PyProof.Rows PySem.Calls
local macro_rules | `(tactic| tb_start) => `(tactic| (have X := Ctx.K (by assumption); revert X; delta PR; k_fill; intro X; refine' enter (by assumption) (by k_is) (by k_is) (Nat.lt_trans (by assumption) (by decide)) ?hb (locs ?hl) ?_ rfl rfl rfl (by decide)))
variable {w : World} {loose : List Str} {mg mb : Str → Option Value} {mean : ExcName → Option Value} {A : Around} {s : Shared} {E : Value → Shared → Prop}
def Small (v : Value) : Prop := ∃ (z : Int) (t : Tok), v = .int z t ∧ 0 ≤ z ∧ z < 2 ^ 61
set_option maxHeartbeats 4000000 in
theorem mix_spec (C : Ctx w loose mg mb mean s.heap) (hd : A.depth < 460) {n p : Int} {tn tp : Tok} (hn : PyData.layable0 (.int n) = true) (hp' : 0 ≤ p ∧ p < 1000) :
    codeAny (model PR w) A (.call (.ref 489) ⟨[.int n tn, .int p tp], []⟩) (Ret s fun v _ => Small v) s := by
  tb_start
  have hp := small_layable hp'
  case hb => exact BindsTo.of_eq (binds := [("number", .int n tn), ("salt", .int p tp)]) rfl
  case hl => rfl
  intro L h₁ tk hL htk F C'
  have T := C.T
  have N : News s.heap L h₁ [] := News.nil
  k_steps
  rename Fr _ _ _ _ => F'
  refine Ret.intro ?_ F'.keep
  refine ⟨_, _, rfl, ?_, ?_⟩
  · exact Int.fmod_nonneg_of_pos _ (by decide +kernel)
  · exact Int.lt_trans (Int.fmod_lt_of_pos _ (by decide +kernel)) (by decide +kernel)
set_option maxHeartbeats 4000000 in
theorem kept_spec (C : Ctx w loose mg mb mean s.heap) (hd : A.depth < 460) :
    codeAny (model PR w) A (.call (.ref 468) ⟨[], []⟩) (Ret s fun v _ => ∃ t, v = .str (Str.ofString "0123456789abcdefghijklmnopqrstuvwxyzABCDEFGHIJKLMNOPQRSTUVWXYZ+.-") t) s := by
  tb_start
  case hb => exact BindsTo.of_eq (binds := []) rfl
  case hl => rfl
  intro L h₁ tk hL htk F C'
  have T := C.T
  have N : News s.heap L h₁ [] := News.nil
  k_steps
  refine Ret.intro ?_ F.keep
  exact ⟨_, by rw [show Str.ofString "0123456789" ++ Str.ofString "abcdefghijklmnopqrstuvwxyzABCDEFGHIJKLMNOPQRSTUVWXYZ+.-" = Str.ofString "0123456789abcdefghijklmnopqrstuvwxyzABCDEFGHIJKLMNOPQRSTUVWXYZ+.-" from by decide +kernel]⟩
/-- a piece: one to three plain signs -/
def Piece (v : Value) : Prop := ∃ x t, v = .str x t ∧ x.length ≤ 3 ∧ Plain x
set_option maxHeartbeats 4000000 in
theorem pieces_spec (C : Ctx w loose mg mb mean s.heap) (hd : A.depth < 460) :
    codeAny (model PR w) A (.call (.ref 475) ⟨[], []⟩) (Ret s fun v h' => ∃ l items, v = .ref l ∧ h'.IsList l items ∧ items.size = 20 ∧ ∀ v ∈ items.toList, Piece v) s := by
  tb_start
  case hb => exact BindsTo.of_eq (binds := []) rfl
  case hl => rfl
  intro L h₁ tk hL htk F C'
  have T := C.T
  have N : News s.heap L h₁ [] := News.nil
  k_steps
  rename Fr _ _ _ _ => F'
  rename News _ _ _ _ => N'
  refine Ret.intro ⟨_, _, rfl, ⟨_, (N' _ (.head _)).1, rfl, _, rfl⟩, rfl, ?_⟩ F'.keep
  intro v hv
  simp only [List.mem_cons, List.not_mem_nil, or_false] at hv
  rcases hv with rfl | rfl | rfl | rfl | rfl | rfl | rfl | rfl | rfl | rfl | rfl | rfl | rfl | rfl | rfl | rfl | rfl | rfl | rfl | rfl <;> exact ⟨_, _, rfl, by decide +kernel, by decide +kernel⟩
end Mine
end
section
set_option maxRecDepth 100000
local macro_rules | `(tactic| k_steps) => `(tactic| ((try dsimp only); repeat' (first | ((fail_if_success (with_reducible show PySem.wpAny _ _ (PySem.pyIter (PySem.Value.ref _)) _ _ _)); (fail_if_success (with_reducible show PySem.wpAny _ _ (PySem.exec (PySem.Stmt.While _ _ _ _) _) _ _ _)); first | (with_reducible refine PySem.wpAny_execs_cons ?_) | ((try dsimp only); walk1)) | fail "no step")))
local macro_rules | `(tactic| tb_rel) => `(tactic| ((try dsimp only); repeat' (first | ((fail_if_success (with_reducible show PySem.wpAny _ _ (PySem.exec (PySem.Stmt.If _ _ _ _) _) _ _ _)); (fail_if_success (with_reducible show PySem.wpAny _ _ (PySem.pyIter (PySem.Value.ref _)) _ _ _)); (fail_if_success (with_reducible show PySem.wpAny _ _ (PySem.exec (PySem.Stmt.While _ _ _ _) _) _ _ _)); first | (with_reducible refine PySem.wpAny_execs_cons ?_) | ((try dsimp only); walk1)) | fail "no step")))
namespace Mine
open PySem PySem.W PyProof.Rows PySem.Calls
local macro_rules | `(tactic| tb_start) => `(tactic| (have X := Ctx.K (by assumption); revert X; delta PR; k_fill; intro X; refine' enter (by assumption) (by k_is) (by k_is) (Nat.lt_trans (by assumption) (by decide)) ?hb (locs ?hl) ?_ rfl rfl rfl (by decide)))
variable {w : World} {loose : List Str} {mg mb : Str → Option Value} {mean : ExcName → Option Value} {A : Around} {s : Shared} {E : Value → Shared → Prop}
local macro_rules | `(tactic| walk_at "call builtin:len") => `(tactic| ((with_reducible show wpAny _ _ (call (Value.builtin "len") [Value.ref _]) _ _ _); (rename News _ _ _ _ => N'); refine len_S N' (by k_mem) (by first | omega | (simp only [List.length_append, List.length_cons, List.length_nil]; omega)) ?_; (try simp only [List.length_append, List.length_cons, List.length_nil, Nat.zero_add])))
local macro_rules | `(tactic| walk_at "call builtin:list.append") => `(tactic| ((with_reducible show wpAny _ _ (call (Value.builtin "list.append") [Value.ref _, Value.str _ _]) _ _ _); (rename Fr _ _ _ _ => F'); (rename News _ _ _ _ => N'); refine append_S F' N' (by first | assumption | (intro p hp; cases hp)) (by omega) ?_; clear F' N'; intro h' F' N'))
local macro_rules | `(tactic| walk_at "call type:list") => `(tactic| ((with_reducible show wpAny _ _ (call (Value.type "list") [Value.str _ _]) _ _ _); (rename Fr _ _ _ _ => F'); (rename News _ _ _ _ => N'); refine list_strD (by assumption) F' N' ?_ (by decide +kernel); clear F' N'; intro h' tk' ys' F' N' k' hn' hl' pl' ca'; clear k' hn' pl'))
local macro_rules | `(tactic| walk_at "compareOp NotIn str ref") => `(tactic| ((rename PySem.Heap.IsList _ _ _ => hl'); (rename PySem.CarriedAll _ _ => ca'); refine notin_list_strs hl' (CarriedAll.strsOf ca') ?_))
set_option maxHeartbeats 4000000 in
theorem open_spec (C : Ctx w loose mg mb mean s.heap) (hd : A.depth < 459) (hh : A.handled = none) {x : Str} {tx' : Tok} (hx : x.length ≤ 300) (hp : Plain x) :
    codeAny (model PR w) A (.call (.ref 503) ⟨[.str x tx'], []⟩) (Ret s fun v h' => ∃ T lr l rest t, v = .ref T ∧ IsTup h' T #[.ref lr, .str rest t] ∧ (∃ n, h'.get? lr = some (listOf (strValues l).toArray n)) ∧ s.heap.get? lr = none ∧ l.map (fun q => tx q.1) = (openL 3 (tx x)).1 ∧ tx rest = (openL 3 (tx x)).2) s := by
  tb_start
  case hb => exact BindsTo.of_eq (binds := [("text", .str x tx')]) rfl
  case hl => rfl
  intro L h₁ tk hL htk F C'
  have T := C.T
  have N : News s.heap L h₁ [] := News.nil
  k_steps
  rename Fr _ _ _ _ => F1
  rename News _ _ _ _ => N1
  obtain ⟨lr, elr⟩ := nm N1
  subst elr
  refine While_inv2 (fun n m nx => ∃ (l : List (Str × Tok)) (c a : Nat) (t : Tok), nx = [(lr, listOf (strValues l).toArray c)] ∧ m "text" = some (.str x tx') ∧ m "rows" = some (.ref lr) ∧ m "at" = some (.int a t) ∧ l.length + n = 3 ∧ 0 < n ∧ a ≤ x.length ∧ openL 3 (tx x) = (l.map (fun q => tx q.1) ++ (openL n ((tx x).drop a)).1, (openL n ((tx x).drop a)).2)) (n₀ := 3) F1 N1 ?_ ?_
  · exact ⟨[], 0, 0, _, rfl, rfl, rfl, rfl, rfl, by decide, Nat.zero_le _, rfl⟩
  · rintro n m news h tk F2 N2 ⟨l, c, a, t, rfl, e1, e2, e3, hn, hn0, ha, hop⟩
    have F3 := explL F2 [(_, _), (_, _), (_, _)] (by simp only [List.forall_mem_cons]; exact ⟨e1, e2, e3, List.forall_mem_nil _⟩)
    clear F2
    k_steps
    rename Fr _ _ _ _ => F4
    rename News _ _ _ _ => N4
    refine wpAny_join (fun h' => ∃ m1 tb, Fr s.heap L h' m1 ∧ News s.heap L h' [(lr, listOf (strValues l).toArray c)] ∧ m1 "text" = some (.str x tx') ∧ m1 "rows" = some (.ref lr) ∧ m1 "at" = some (.int a t) ∧ m1 "stop" = some (.int ((a + (((tx x).drop a).takeWhile isDig).length : Nat) : Int) tb)) ?_ ?_
    · refine While_inv2 (fun n m nx => nx = [(lr, listOf (strValues l).toArray c)] ∧ ∃ (b : Nat) (tb : Tok), m "text" = some (.str x tx') ∧ m "rows" = some (.ref lr) ∧ m "at" = some (.int a t) ∧ m "stop" = some (.int b tb) ∧ b + n = x.length ∧ a ≤ b ∧ (((tx x).drop a).take (b - a)).all isDig = true) (n₀ := x.length - a) F4 N4 ?_ ?_
      · exact ⟨rfl, a, _, rfl, rfl, rfl, rfl, by omega, Nat.le_refl _, by simp⟩
      · rintro n1 m1 news1 h1 tk1 F5 N5 ⟨rfl, b, tb, f1, f2, f3, f4, hb, hab, hdg⟩
        have F6 := explL F5 [(_, _), (_, _), (_, _), (_, _)] (by simp only [List.forall_mem_cons]; exact ⟨f1, f2, f3, f4, List.forall_mem_nil _⟩)
        clear F5 F4 N4
        k_steps
        · rename_i hlt hb1 hoc
          obtain ⟨c', hc⟩ : ∃ c, (tx x)[b]? = some c := ⟨_, List.getElem?_eq_getElem (by rw [tx_len]; omega)⟩
          rw [item_tx hc, in_figures] at hoc
          have hk : (((tx x).drop a).takeWhile isDig).length = b - a := takeWhile_len hdg (.inr ⟨c', by rw [List.getElem?_drop, ← hc]; congr 1; omega, by simpa using hoc⟩)
          exact Jn.intro ⟨_, tb, F6, N5, rfl, rfl, rfl, by rw [hk, show a + (b - a) = b by omega]; rfl⟩
        · rename Fr _ _ _ _ => F7
          rename News _ _ _ _ => N7
          have hlt := ‹(b : Int) < _›
          have hoc := ‹(Builtin.Str.occurrences _ _ _ _ _).isEmpty = false›
          obtain ⟨c', hc⟩ : ∃ c, (tx x)[b]? = some c := ⟨_, List.getElem?_eq_getElem (by rw [tx_len]; omega)⟩
          rw [item_tx hc, in_figures] at hoc
          refine ⟨_, _, _, _, n1 - 1, rfl, F7, N7, by omega, rfl, b + 1, _, rfl, rfl, rfl, rfl, by omega, by omega, ?_⟩
          rw [show b + 1 - a = (b - a) + 1 by omega, List.take_succ, List.all_append, hdg, List.getElem?_drop, show a + (b - a) = b by omega, hc]
          simpa using hoc
        · rename_i hlt
          have hk : (((tx x).drop a).takeWhile isDig).length = b - a := takeWhile_len hdg (.inl (by rw [List.length_drop, tx_len]; omega))
          exact Jn.intro ⟨_, tb, F6, N5, rfl, rfl, rfl, by rw [hk, show a + (b - a) = b by omega]; rfl⟩
    · rintro h' tk' ⟨m1, tb, F5, N5, f1, f2, f3, f4⟩
      have F6 := explL F5 [(_, _), (_, _), (_, _), (_, _)] (by simp only [List.forall_mem_cons]; exact ⟨f1, f2, f3, f4, List.forall_mem_nil _⟩)
      clear F5 F4 N4
      k_steps
      · rename Fr _ _ _ _ => F7
        rename News _ _ _ _ => N7
        have hz := nil_of ‹_ = (a : Int)›
        have ho := openL_none hn0 hz
        change Ret s _ _ _
        refine Ret.intro ⟨_, lr, l, _, _, rfl, N7.isTup (.head _), ⟨_, (N7 _ (.tail _ (.head _))).1⟩, (N7 _ (.tail _ (.head _))).2.2, ?_, ?_⟩ F7.keep
        · rw [hop, ho]; simp
        · rw [slice_from, hop, ho]
      · rename Fr _ _ _ _ => F7
        rename News _ _ _ _ => N7
        have hz := ne_nil_of ‹_ ≠ (a : Int)›
        have h3 := ‹((l.length + 1 : Nat) : Int) = 3›
        obtain rfl : n = 1 := by omega
        have ho := openL_last hz
        change Ret s _ _ _
        refine Ret.intro ⟨_, lr, _, _, _, rfl, N7.isTup (.head _), ⟨_, (N7 _ (.tail _ (.head _))).1⟩, (N7 _ (.tail _ (.head _))).2.2, ?_, ?_⟩ F7.keep
        · rw [hop, ho, List.map_append, List.map_cons, List.map_nil, row_tx]
        · rw [slice_from, hop, ho, drop_rest]
      · rename Fr _ _ _ _ => F7
        rename News _ _ _ _ => N7
        have hz := ne_nil_of ‹_ ≠ (a : Int)›
        have h3 := ‹(Txt.slice x _ _ != Str.ofString ".") = true›
        rw [ne_str, slice_one, drop_rest, show tx (Str.ofString ".") = [46] from by decide +kernel] at h3
        have ho := openL_stop hn0 hz (fun c t e => by rw [e] at h3; simp at h3)
        change Ret s _ _ _
        refine Ret.intro ⟨_, lr, _, _, _, rfl, N7.isTup (.head _), ⟨_, (N7 _ (.tail _ (.head _))).1⟩, (N7 _ (.tail _ (.head _))).2.2, ?_, ?_⟩ F7.keep
        · rw [hop, ho, List.map_append, List.map_cons, List.map_nil, row_tx]
        · rw [slice_from, hop, ho, drop_rest]
      · rename Fr _ _ _ _ => F7
        rename News _ _ _ _ => N7
        have hz := ne_nil_of ‹_ ≠ (a : Int)›
        have h2 := ‹((l.length + 1 : Nat) : Int) ≠ 3›
        have h3 := ‹(Txt.slice x _ _ != Str.ofString ".") = false›
        have h4 := ‹(List.map PyData.str _).any (datHitsStr _) = true›
        rw [ne_str, slice_one, drop_rest, show tx (Str.ofString ".") = [46] from by decide +kernel] at h3
        rw [in_figlist, slice_two] at h4
        obtain ⟨c', t', g1, g2, g3⟩ := dot_digit h3 h4
        obtain ⟨n', rfl⟩ : ∃ k, n = k + 1 := ⟨n - 1, by omega⟩
        have hn1 : 0 < n' := by omega
        have ho := openL_go hn1 hz g1 g2
        have hle : a + (((tx x).drop a).takeWhile isDig).length + 1 ≤ x.length := by
          have := congrArg List.length g3
          rw [List.length_drop, List.length_cons, tx_len] at this; omega
        refine ⟨_, _, _, _, n', rfl, F7, N7, by omega, _, _, a + (((tx x).drop a).takeWhile isDig).length + 1, _, rfl, rfl, rfl, rfl, by rw [List.length_append]; simp; omega, hn1, hle, ?_⟩
        rw [hop, ho, g3, List.map_append, List.map_cons, List.map_nil, row_tx, List.append_assoc]
        rfl
      · rename Fr _ _ _ _ => F7
        rename News _ _ _ _ => N7
        have hz := ne_nil_of ‹_ ≠ (a : Int)›
        have h4 := ‹(List.map PyData.str _).any (datHitsStr _) = false›
        rw [in_figlist, slice_two] at h4
        have ho := openL_stop hn0 hz (dot_other h4)
        change Ret s _ _ _
        refine Ret.intro ⟨_, lr, _, _, _, rfl, N7.isTup (.head _), ⟨_, (N7 _ (.tail _ (.head _))).1⟩, (N7 _ (.tail _ (.head _))).2.2, ?_, ?_⟩ F7.keep
        · rw [hop, ho, List.map_append, List.map_cons, List.map_nil, row_tx]
        · rw [slice_from, hop, ho, drop_rest]
end Mine
end
section
set_option maxRecDepth 100000
local macro_rules | `(tactic| k_steps) => `(tactic| ((try dsimp only); repeat' (first | ((fail_if_success (with_reducible show PySem.wpAny _ _ (PySem.pyIter (PySem.Value.ref _)) _ _ _)); (fail_if_success (with_reducible show PySem.wpAny _ _ (PySem.compareOp _ (PySem.Value.ref _) (PySem.Value.ref _)) _ _ _)); (fail_if_success (with_reducible show PySem.wpAny _ _ (PySem.eval (PySem.Expr.ListComp _ _ _ _) _) _ _ _)); (fail_if_success (with_reducible show PySem.wpAny _ _ (PySem.exec (PySem.Stmt.While _ _ _ _) _) _ _ _)); first | (with_reducible refine PySem.wpAny_execs_cons ?_) | ((try dsimp only); walk1)) | fail "no step")))
local macro_rules | `(tactic| tb_rel) => `(tactic| ((try dsimp only); repeat' (first | ((fail_if_success (with_reducible show PySem.wpAny _ _ (PySem.exec (PySem.Stmt.If _ _ _ _) _) _ _ _)); (fail_if_success (with_reducible show PySem.wpAny _ _ (PySem.pyIter (PySem.Value.ref _)) _ _ _)); (fail_if_success (with_reducible show PySem.wpAny _ _ (PySem.compareOp _ (PySem.Value.ref _) (PySem.Value.ref _)) _ _ _)); (fail_if_success (with_reducible show PySem.wpAny _ _ (PySem.eval (PySem.Expr.ListComp _ _ _ _) _) _ _ _)); (fail_if_success (with_reducible show PySem.wpAny _ _ (PySem.exec (PySem.Stmt.While _ _ _ _) _) _ _ _)); first | (with_reducible refine PySem.wpAny_execs_cons ?_) | ((try dsimp only); walk1)) | fail "no step")))
namespace Mine
open PySem PySem.W PyProof.Rows PySem.Calls
local macro_rules | `(tactic| tb_start) => `(tactic| (have X := Ctx.K (by assumption); revert X; delta PR; k_fill; intro X; refine' enter (by assumption) (by k_is) (by k_is) (Nat.lt_trans (by assumption) (by decide)) ?hb (locs ?hl) ?_ rfl rfl rfl (by decide)))
variable {w : World} {loose : List Str} {mg mb : Str → Option Value} {mean : ExcName → Option Value} {A : Around} {s : Shared} {E : Value → Shared → Prop}
theorem keeps_self {s : Shared} : Keeps s s := ⟨_, _, rfl, fun _ _ e => e⟩
set_option maxHeartbeats 4000000 in
theorem wrong_spec (C : Ctx w loose mg mb mean s.heap) (hd : A.depth < 459) (hh : A.handled = none) (hu : A.units < 500) {x : Str} {tx' : Tok} {b : Bool} (hx : x.length ≤ 300) (hp : Plain x) :
    codeAny (model PR w) A (.call (.ref 508) ⟨[.str x tx', .bool b], []⟩) (Ret s fun v _ => v = .bool (wrongL b (tx x))) s := by
  tb_start
  case hb => exact BindsTo.of_eq (binds := [("part", .str x tx'), ("nought", .bool b)]) rfl
  case hl => rfl
  intro L h₁ tk hL htk F C'
  have T := C.T
  have N : News s.heap L h₁ [] := News.nil
  k_steps
  rename List (Str × Tok) => l
  have hmap := ‹List.map (fun q : Str × Tok => q.1) l = Txt.split _ _›
  have hlist := ‹PySem.Heap.IsList _ _ _›
  rename Fr _ _ _ _ => F1
  rename News _ _ _ _ => N1
  refine iterJ_list (L := L) (fun i m nx => nx = [] ∧ m "nought" = some (.bool b) ∧ ((l.take i).all fun q => !badI b (tx q.1)) = true) rfl hh hlist (fun e => (N1 _ (.head _)).2.1 e) (fun p hp => by cases hp) F1 News.nil ⟨rfl, rfl, rfl⟩ ?_ ?_
  · rintro i v m1 nx h tk1 own hv ⟨rfl, f1, f2⟩ hadr hoff F2 N2
    obtain ⟨y, ty, rfl, hy⟩ : ∃ y ty, v = .str y ty ∧ y ∈ Txt.split x (Str.ofString ".") := by
      rw [← hmap]
      simp only [strValues, List.getElem?_toArray, List.getElem?_map, Option.map_eq_some_iff] at hv
      obtain ⟨q, hq, rfl⟩ := hv
      exact ⟨_, _, rfl, List.mem_map_of_mem (List.mem_of_getElem? hq)⟩
    have F3 := explX F2 [(_, _)] (by simp only [List.forall_mem_cons]; exact ⟨f1, List.forall_mem_nil _⟩) rfl
    clear F2
    have hyl : y.length ≤ 300 := Nat.le_trans (‹∀ a ∈ List.map _ _, a.length ≤ _› y (hmap ▸ hy)) hx
    have no : badI b (tx y) = false → ((l.take (i + 1)).all fun q => !badI b (tx q.1)) = true := wrong_snoc hv f2
    k_steps
    · refine Ret.intro ?_ (F3.keep)
      rw [wrong_yes hy (bad_empty (by assumption))]
    · refine comp_signs (y := y) (t := ty) (L := L) (fun a => (Builtin.Str.occurrences (Str.ofString "0123456789") a 0 (Str.ofString "0123456789").length 1).isEmpty) (fun a => a) hh (by decide) (by decide) rfl (by decide) rfl ‹Fr _ _ _ _› ‹News _ _ _ _› (Nat.le_trans hyl (by decide)) (fun h => ?_) ?_ ?_ ?_
      · k_steps
        exact h
      · intro C1 a u s₂ m₂ E' hn hm hk ha
        have T := T.keeps (fun b o e => hk b o (F3.keep b o e))
        have C := Ctx.keeps C (fun b o e => hk b o (F3.keep b o e))
        refine wpAny_tests_one ?_
        k_steps
        (try subst qk)
        (try subst ek)
        k_steps
        all_goals first | exact Bool.not_not _ | exact keeps_self
      · intro C1 a u s₂ m₂ E' hn hm hk ha
        k_steps
        all_goals first | exact ⟨_, rfl⟩ | exact keeps_self
      · intro D n l h' tk F N hm
        k_steps
        refine eq_nil (by assumption) (.tail _ (.head _)) (.head _) (by rw [units_deeper]; exact Nat.lt_trans (Nat.add_lt_add_right hu 3) (by decide)) ?_
        k_steps
        · refine Ret.intro ?_ (Fr.keep ‹Fr _ _ _ _›)
          rw [wrong_yes hy]
          rw [bad_of ‹_›, ← none_left hm]
          simp only [*, Bool.true_and, Bool.and_true, Bool.and_false]; first | done | (apply decide_eq_true; omega)
        · rename Fr _ _ _ _ => FF
          rename News _ _ _ _ => NN
          refine TEnd.intro (nx := []) FF NN (fun p hp => .tail _ (.tail _ hp)) rfl ⟨rfl, rfl, no ?_⟩
          rw [bad_of ‹_›, ← none_left hm]
          simp only [*, Bool.true_and, Bool.and_true, Bool.and_false]; first | done | (apply decide_eq_true; omega)
    all_goals (refine TEnd.intro (nx := []) F3 N2 (fun p hp => hp) rfl ⟨rfl, rfl, no ?_⟩; rw [bad_of ‹_›]; first | (simp only [*, Bool.false_and, Bool.and_false]; done) | (rw [decide_eq_false (by omega)]; simp only [Bool.false_and, Bool.and_false]))
  · rintro m1 nx h tk1 ⟨rfl, f1, f2⟩ hadr F2 N2
    k_steps
    refine Ret.intro ?_ F2.keep
    rw [wrong_no hmap (by simpa [strValues] using f2)]
end Mine
end
section
set_option maxRecDepth 100000
local macro_rules | `(tactic| k_steps) => `(tactic| ((try dsimp only); repeat' (first | ((fail_if_success (with_reducible show PySem.wpAny _ _ (PySem.pyIter (PySem.Value.ref _)) _ _ _)); (fail_if_success (with_reducible show PySem.wpAny _ _ (PySem.assign (PySem.Expr.Tuple _ _ _) _ (PySem.Value.ref _)) _ _ _)); (fail_if_success (with_reducible show PySem.wpAny _ _ (PySem.compareOp _ (PySem.Value.ref _) (PySem.Value.ref _)) _ _ _)); (fail_if_success (with_reducible show PySem.wpAny _ _ (PySem.eval (PySem.Expr.Name (PySem.Str.ofString "int") _) _) _ _ _)); (fail_if_success (with_reducible show PySem.wpAny _ _ ((PySem.call (PySem.Value.ref _) _ _)) _ _ _)); (fail_if_success (with_reducible show PySem.wpAny _ _ ((PySem.eval (PySem.Expr.ListComp _ _ _ _) _)) _ _ _)); (fail_if_success (with_reducible show PySem.wpAny _ _ ((PySem.call (PySem.Value.type "int") [PySem.Value.str _ _] _)) _ _ _)); (fail_if_success (with_reducible show PySem.wpAny _ _ (PySem.exec (PySem.Stmt.While _ _ _ _) _) _ _ _)); first | (with_reducible refine PySem.wpAny_execs_cons ?_) | ((try dsimp only); walk1)) | fail "no step")))
local macro_rules | `(tactic| tb_rel) => `(tactic| ((try dsimp only); repeat' (first | ((fail_if_success (with_reducible show PySem.wpAny _ _ (PySem.exec (PySem.Stmt.If _ _ _ _) _) _ _ _)); (fail_if_success (with_reducible show PySem.wpAny _ _ (PySem.pyIter (PySem.Value.ref _)) _ _ _)); (fail_if_success (with_reducible show PySem.wpAny _ _ (PySem.assign (PySem.Expr.Tuple _ _ _) _ (PySem.Value.ref _)) _ _ _)); (fail_if_success (with_reducible show PySem.wpAny _ _ (PySem.compareOp _ (PySem.Value.ref _) (PySem.Value.ref _)) _ _ _)); (fail_if_success (with_reducible show PySem.wpAny _ _ (PySem.eval (PySem.Expr.Name (PySem.Str.ofString "int") _) _) _ _ _)); (fail_if_success (with_reducible show PySem.wpAny _ _ ((PySem.call (PySem.Value.ref _) _ _)) _ _ _)); (fail_if_success (with_reducible show PySem.wpAny _ _ ((PySem.eval (PySem.Expr.ListComp _ _ _ _) _)) _ _ _)); (fail_if_success (with_reducible show PySem.wpAny _ _ ((PySem.call (PySem.Value.type "int") [PySem.Value.str _ _] _)) _ _ _)); (fail_if_success (with_reducible show PySem.wpAny _ _ (PySem.exec (PySem.Stmt.While _ _ _ _) _) _ _ _)); first | (with_reducible refine PySem.wpAny_execs_cons ?_) | ((try dsimp only); walk1)) | fail "no step")))
local macro_rules | `(tactic| k_handed) => `(tactic| assumption)
namespace Mine
open PySem PySem.W PyProof.Rows PySem.Calls
local macro_rules | `(tactic| tb_start) => `(tactic| (have X := Ctx.K (by assumption); revert X; delta PR; k_fill; intro X; refine' enter (by assumption) (by k_is) (by k_is) (Nat.lt_trans (by assumption) (by decide)) ?hb (locs ?hl) ?_ rfl rfl rfl (by decide)))
variable {w : World} {loose : List Str} {mg mb : Str → Option Value} {mean : ExcName → Option Value} {A : Around} {s : Shared} {E : Value → Shared → Prop}

theorem in_kept {c : Nat} (hc : c < 128) : (Builtin.Str.occurrences (Str.ofString "0123456789abcdefghijklmnopqrstuvwxyzABCDEFGHIJKLMNOPQRSTUVWXYZ+.-") ⟨#[c]⟩ 0 (Str.ofString "0123456789abcdefghijklmnopqrstuvwxyzABCDEFGHIJKLMNOPQRSTUVWXYZ+.-").length 1).isEmpty = !isKept c := by
  have h := StrLaws.found_one (Str.ofString "0123456789abcdefghijklmnopqrstuvwxyzABCDEFGHIJKLMNOPQRSTUVWXYZ+.-") c
  have e : ∀ c, c < 128 → decide (c ∈ (Str.ofString "0123456789abcdefghijklmnopqrstuvwxyzABCDEFGHIJKLMNOPQRSTUVWXYZ+.-").cps.toList) = isKept c := by decide +kernel
  rw [e c hc] at h
  rw [← h, Bool.not_not]
theorem join_empty {f : Nat → Str} {g : Nat → Nat} (hf : ∀ c, tx (f c) = [g c]) : ∀ l : List Nat, tx (Str.join (Str.ofString "") (l.map f)) = l.map g
  | [] => rfl
  | [c] => hf c
  | c :: d :: r => by
    have := join_empty hf (d :: r)
    show tx (f c ++ Str.ofString "" ++ Str.join (Str.ofString "") ((d :: r).map f)) = _
    rw [tx_append, tx_append, this, hf, tx_nil]; rfl
/-- a sign as the law keeps it -/
def keepS (a : Str) : Str := ⟨(tx a).toArray.map hy⟩
theorem keepS_one (c : Nat) : keepS ⟨#[c]⟩ = ⟨#[hy c]⟩ := by simp [keepS, tx]
theorem keepS_yes {c : Nat} (hc : c < 128) (h : (Builtin.Str.occurrences (Str.ofString "0123456789abcdefghijklmnopqrstuvwxyzABCDEFGHIJKLMNOPQRSTUVWXYZ+.-") ⟨#[c]⟩ 0 (Str.ofString "0123456789abcdefghijklmnopqrstuvwxyzABCDEFGHIJKLMNOPQRSTUVWXYZ+.-").length 1).isEmpty = false) : (⟨#[c]⟩ : Str) = keepS ⟨#[c]⟩ := by
  rw [in_kept hc] at h
  have : isKept c = true := by simpa using h
  rw [keepS_one, hy, if_pos this]
theorem keepS_no {c : Nat} (hc : c < 128) (h : (Builtin.Str.occurrences (Str.ofString "0123456789abcdefghijklmnopqrstuvwxyzABCDEFGHIJKLMNOPQRSTUVWXYZ+.-") ⟨#[c]⟩ 0 (Str.ofString "0123456789abcdefghijklmnopqrstuvwxyzABCDEFGHIJKLMNOPQRSTUVWXYZ+.-").length 1).isEmpty = true) : Str.ofString "-" = keepS ⟨#[c]⟩ := by
  rw [in_kept hc] at h
  have : ¬ isKept c = true := by simpa using h
  rw [keepS_one, hy, if_neg this]
  decide +kernel
theorem gnameB {A : Around} {env : Env} {x : Str} {pos : Pos} {v : Value} {Q : Value → Shared → Prop} (C : Ctx w loose mg mb mean s.heap) (e : nsIn (KK w.params) mainGlobals x = some none) (hv : bootBuiltins x = some v) (hn : x ≠ "__name__") (h : Q v s)
    (hk : env.scope.kind = .function := by rfl) (hx : env.kindOf x = some .globalImplicit := by rfl) (hg : env.globals = mainGlobals := by rfl) (hb : env.builtins = builtinsNs := by rfl) (hd : (x == ("__debug__" : Str)) = false := by decide) :
    wpAny (model PR w) A (eval (.Name x pos) env) Q E s :=
  Calls.Name_function_global hk hx (Calls.loadGlobal_builtin (mg := mg) (mb := mb) (by rw [hg]; exact C.T.g) (mg_none_of C.K C.T.g e) (by rw [hb]; exact C.T.b) ((C.T.builtins x hn).trans hv) h) hd
theorem paired_rows : ∀ {l : List (Str × Tok)} {ys : List Value}, Paired (fun v r => ∃ a u t, v = Value.str a u ∧ r = Value.int (numL (tx a)) t) (strValues l) ys → Paired (fun D v => ∃ t, v = Value.int (numL D) t) (l.map fun q => tx q.1) ys
  | [], ys, h => by cases h; exact .nil
  | q :: r, ys, h => by
    cases h with
    | cons h1 h2 =>
      obtain ⟨a, u, t, e, rfl⟩ := h1
      cases e
      exact .cons ⟨t, rfl⟩ (paired_rows h2)
theorem slice_t1 (y : Str) : tx (Txt.slice y none (some 1)) = (tx y).take 1 := slice_to y 1
theorem in_two (z : Str) : ([Str.ofString "+", Str.ofString "."].any fun x => x == z) = (decide (tx z = [43]) || decide (tx z = [46])) := by
  simp only [List.any_cons, List.any_nil, Bool.or_false, eq_str]
  rw [show tx (Str.ofString "+") = [43] by decide +kernel, show tx (Str.ofString ".") = [46] by decide +kernel]
  congr 1 <;> (rw [Bool.eq_iff_iff, decide_eq_true_eq, decide_eq_true_eq]; exact eq_comm)
theorem cut_in {y : Str} (h : ([Str.ofString "+", Str.ofString "."].any fun x => x == Txt.slice y none (some 1)) = true) : cutL (tx y) = ([], (tx y).drop 1) := by
  rw [in_two, slice_t1] at h
  cases hy : tx y with
  | nil => rw [hy] at h; simp at h
  | cons c r =>
    rw [hy] at h
    simp at h
    rw [cutL_cons, if_pos h]; rfl
theorem cut_dash {y : Str} (h : ([Str.ofString "+", Str.ofString "."].any fun x => x == Txt.slice y none (some 1)) = false) (h2 : (Txt.slice y none (some 1) == Str.ofString "-") = true) : cutL (tx y) = cutP ((tx y).drop 1) := by
  rw [in_two, slice_t1] at h
  rw [eq_str, slice_t1, show tx (Str.ofString "-") = [45] by decide +kernel] at h2
  cases hy : tx y with
  | nil => rw [hy] at h2; simp at h2
  | cons c r =>
    rw [hy] at h h2
    simp at h h2
    rw [cutL_cons, if_neg (by simp [h]), if_pos h2]; rfl
theorem cut_else {y : Str} (h : ([Str.ofString "+", Str.ofString "."].any fun x => x == Txt.slice y none (some 1)) = false) (h2 : (Txt.slice y none (some 1) == Str.ofString "-") = false) : cutL (tx y) = cutP (tx y) := by
  rw [in_two, slice_t1] at h
  rw [eq_str, slice_t1, show tx (Str.ofString "-") = [45] by decide +kernel] at h2
  cases hy : tx y with
  | nil => rfl
  | cons c r =>
    rw [hy] at h h2
    simp at h h2
    rw [cutL_cons, if_neg (by simp [h]), if_neg h2]
theorem find_cases (z : Str) : Txt.find z (Str.ofString "+") = if 43 ∈ tx z then (((tx z).takeWhile (· != 43)).length : Int) else -1 := by
  rw [show Str.ofString "+" = ⟨#[43]⟩ by decide +kernel, find_tx]
theorem find_neg {z : Str} (h : Txt.find z (Str.ofString "+") < 0) : cutP (tx z) = (tx z, []) := by
  rw [find_cases] at h
  refine cutP_no ?_
  rw [plus_in]
  by_cases hm : 43 ∈ tx z
  · rw [if_pos hm] at h; omega
  · rw [decide_eq_false hm]; rfl
theorem find_pos {z : Str} (h : ¬ Txt.find z (Str.ofString "+") < 0) : (tx (Txt.slice z none (some (Txt.find z (Str.ofString "+")))), tx (Txt.slice z (some (Txt.find z (Str.ofString "+") + 1)) none)) = cutP (tx z) := by
  rw [find_cases] at h ⊢
  by_cases hm : 43 ∈ tx z
  · rw [if_pos hm]
    have e : (((tx z).takeWhile (· != 43)).length : Int) + 1 = ((((tx z).takeWhile (· != 43)).length + 1 : Nat) : Int) := by omega
    rw [e, slice_to, slice_from, take_takeWhile, dw_drop]; rfl
  · rw [if_neg hm] at h; exact absurd (by decide) h
/-- what the law tells of a text -/
def Due (G : Heap) (x : List Nat) (v : Value) (h : Heap) : Prop := if badC x then v = .none else
  ∃ T lr items p q tp tq, v = .ref T ∧ IsTup h T #[.ref lr, .str p tp, .str q tq] ∧ (∃ n, h.get? lr = some (listOf items n)) ∧ G.get? lr = none ∧ G.get? T = none ∧ Paired (fun D v => ∃ t, v = .int (numL D) t) (openL 3 x).1 items.toList ∧ tx p = preL x ∧ tx q = bldL x
set_option maxHeartbeats 4000000 in
theorem due_spec (C : Ctx w loose mg mb mean s.heap) (hd : A.depth < 450) (hh : A.handled = none) (hu : A.units < 400) {x : Str} {tx' : Tok} (hx : x.length ≤ 200) (hp : Plain x) :
    codeAny (model PR w) A (.call (.ref 513) ⟨[.str x tx'], []⟩) (Ret s (Due s.heap (tx x))) s := by
  tb_start
  case hb => exact BindsTo.of_eq (binds := [("text", .str x tx')]) rfl
  case hl => rfl
  intro L h₁ tk hL htk F C'
  have T := C.T
  have N : News s.heap L h₁ [] := News.nil
  k_steps
  refine callR (by assumption) (by assumption) (open_spec (Ctx.keeps C (Fr.keep (by assumption))) (by simp only [depth_deeper]; omega) (by exact hh) (Nat.le_trans hx (by decide)) hp) ?_
  rintro v h' tk' ⟨TT, lr, l, rest, tr, rfl, hT, ⟨nl, hl⟩, hlf, hl1, hl2⟩ F1 N1 kk
  have hdC : (A.deeper (envOf (Str.ofString "") default 0 0 .none)).depth < 460 := by simp only [depth_deeper]; omega
  have hx1 : lr ≠ L := fun e => by
    subst e
    have := F1.ns
    obtain ⟨o, es, ep, e1, e2, _⟩ := this
    rw [hl] at e1; cases e1; cases e2
  have N2 := News.more F1 (forget N1) hl (fun es n q => by cases q) (kts_none F.keep hlf)
  refine unpackN_ F1 N2 hT hh rfl rfl fun h2 F2 N3 => ?_
  clear F1 N2 N1
  have hlen : l.length ≤ 3 := by
    have h1 := congrArg List.length hl1
    have h2 := openL_len 3 (tx x)
    rw [List.length_map] at h1; omega
  k_steps
  refine eq_nil (l := l) (by assumption) (.tail _ (.head _)) (.head _) (by rw [units_deeper]; exact Nat.lt_trans (Nat.add_lt_add_right hu 3) (by decide)) ?_
  k_steps
  · refine Ret.intro ?_ (Fr.keep (by assumption))
    unfold Due
    have : badC (tx x) = true := by
      unfold badC
      rw [← hl1, List.isEmpty_iff.mp ‹l.isEmpty = true›]; rfl
    rw [if_pos this]
  have hne : (openL 3 (tx x)).1 ≠ [] := by
    rw [← hl1]
    have := ‹l.isEmpty = false›
    simpa using this
  have hrl : rest.length ≤ 200 := by
    rw [← tx_len, hl2]
    have := congrArg List.length (openL_join 3 (tx x) hne)
    rw [List.length_append, tx_len] at this
    omega
  have hrp : ∀ c ∈ tx rest, c < 128 := fun c hc => by
    rw [hl2] at hc
    have := openL_join 3 (tx x) hne
    exact (hp c (by show c ∈ tx x; rw [← this]; exact List.mem_append_right _ hc)).1
  rename Fr _ _ _ _ => F4
  rename News _ _ _ _ => N4
  refine wpAny_mono (wpAny_toks (comp_signs (y := rest) (t := tr) (L := L) (Q := fun v s' => ∃ D n l6 h6 tk6, v = .ref D ∧ s' = { s with heap := h6, toks := tk6 } ∧ Fr s.heap L h6 _ ∧ News s.heap L h6 ((D, listOf (strValues l6).toArray n) :: _) ∧ l6.map (·.1) = ((signs rest).filter fun _ => true).map keepS) (fun a => true) keepS hh (by decide) (by decide) rfl (by decide) rfl F4 N4 (Nat.le_trans hrl (by decide)) (fun h => ?_) ?_ ?_ (fun D n l6 h6 tk6 F6 N6 hm6 => ⟨D, n, l6, h6, tk6, rfl, rfl, F6, N6, hm6⟩))) ?_ (fun _ _ e => e.1)
  · k_steps
    exact h
  · intro C1 a u s₂ m₂ E' hn hm hk ha
    rw [List.forIn_nil]
    exact wpAny_pure ⟨rfl, keeps_self⟩
  · intro C1 a u s₂ m₂ E' hn hm hk ha
    obtain ⟨c, hc, rfl⟩ := List.mem_map.mp ha
    have T := T.keeps (fun b o e => hk b o (F4.keep b o e))
    have C := Ctx.keeps C (fun b o e => hk b o (F4.keep b o e))
    k_steps
    rename Fr _ _ _ _ => kF
    rename News _ _ _ _ => kN
    rename InElt _ _ => kE
    refine callK (pos := []) (kept_spec (by assumption) (by exact hdC) ) ?_
    rintro v h9 tk9 ⟨t9, rfl⟩ k9
    have kF2 := kF.keeps k9
    have kN2 := News.keeps kN k9
    have kE2 : InElt s₂.heap h9 := k9
    have hn2 := hn.keeps k9
    clear kF kN kE hn
    k_steps
    all_goals first
      | exact congrArg (fun z => Value.str z _) (keepS_no (hrp c hc) ‹_›)
      | exact congrArg (fun z => Value.str z _) (keepS_yes (hrp c hc) ‹_›)
      | exact ⟨_, _, rfl, k9⟩
  · rintro v s' ⟨⟨D, n, l6, h6, tk6, rfl, rfl, F6, N6, hm6⟩, htk6⟩
    have htk6 : 1 ≤ tk6 := Nat.le_trans (Nat.le_add_left 1 _) htk6
    k_steps
    have hl6 : ∀ a ∈ l6.map (·.1), a.length ≤ 1 := fun a ha => by
      rw [hm6] at ha
      obtain ⟨b, hb, rfl⟩ := List.mem_map.mp ha
      obtain ⟨c, _, rfl⟩ := List.mem_map.mp (show b ∈ (tx rest).map fun c => (⟨#[c]⟩ : Str) from (List.mem_filter.mp hb).1)
      show (keepS ⟨#[c]⟩).length ≤ 1
      rw [keepS_one]; exact Nat.le_refl 1
    have hl7 : l6.length = rest.length := by
      have := congrArg List.length hm6
      rw [List.filter_eq_self.mpr (fun _ _ => rfl), List.length_map, List.length_map] at this
      unfold signs at this
      rw [List.length_map] at this
      rw [this, ← tx_len]; rfl
    refine wpAny_mono (wpAny_toks (SC.join (Q := fun v s' => ∃ t7 k7, v = .str (Txt.join (Str.ofString "") (l6.map (·.1))) t7 ∧ s' = { s with heap := h6, toks := k7 }) (isListOf (h₀ := s.heap) (L := L) (N6 _ (.head _))) rfl (joinOk_of hl6 (by rw [List.length_map, show (Str.ofString "").length = 0 from by decide +kernel]; omega)) (fun t7 k7 => ⟨t7, k7, rfl, rfl⟩))) ?_ (fun _ _ e => e.1)
    rintro v s' ⟨⟨t7, k7, rfl, rfl⟩, hk7⟩
    have hk7 : 1 ≤ k7 := Nat.le_trans htk6 hk7
    have hy7 : tx (Txt.join (Str.ofString "") (l6.map (·.1))) = (openL 3 (tx x)).2.map hy := by
      rw [Txt.join, StrLaws.glued_eq_join, hm6, List.filter_eq_self.mpr (fun _ _ => rfl), ← hl2]
      unfold signs
      rw [List.map_map]
      exact join_empty (f := keepS ∘ fun n => ⟨#[n]⟩) (g := hy) (fun c => by show tx (keepS ⟨#[c]⟩) = _; rw [keepS_one]; rfl) (tx rest)
    generalize Txt.join (Str.ofString "") (l6.map (·.1)) = y at hy7 ⊢
    have hyl : y.length ≤ 200 := by
      rw [← tx_len, hy7, List.length_map, ← hl2, tx_len]; exact hrl
    clear hl6 hl7 hm6
    tb_rel
    refine wpAny_joinT (fun h' => ∃ m' p tp q tq, Fr s.heap L h' m' ∧ News s.heap L h' [(lr, listOf (strValues l).toArray nl)] ∧ m' (Str.ofString "rows") = some (.ref lr) ∧ m' (Str.ofString "pre") = some (.str p tp) ∧ m' (Str.ofString "build") = some (.str q tq) ∧ (tx p, tx q) = cutL (tx y)) ?_ ?_
    · k_steps
      · refine unpackItemsN_ (by assumption) ‹News _ _ _ _› (News.isTup ‹News _ _ _ _› (.head _)) hh rfl fun h9 F9 N9 => ?_
        k_steps
        rename Fr _ _ _ _ => FF
        rename News _ _ _ _ => NN
        exact Jn.intro ⟨_, _, _, _, _, FF, fun p hp => NN p (by rw [List.mem_singleton.mp hp]; repeat first | exact .head _ | apply List.Mem.tail), rfl, rfl, rfl, by rw [cut_in ‹_›, slice1, tx_nil]⟩
      · rename Fr _ _ _ _ => FA
        rename News _ _ _ _ => NA
        refine unpackN_ FA NA (NA.isTup (.head _)) hh rfl rfl fun h9 F9 N9 => ?_
        k_steps
        rename Fr _ _ _ _ => FF
        rename News _ _ _ _ => NN
        exact Jn.intro ⟨_, _, _, _, _, FF, fun p hp => NN p (by rw [List.mem_singleton.mp hp]; repeat first | exact .head _ | apply List.Mem.tail), rfl, rfl, rfl, by rw [cut_dash ‹_› ‹_›, ← slice1, find_neg ‹_›, tx_nil]⟩
      · rename Fr _ _ _ _ => FA
        rename News _ _ _ _ => NA
        refine unpackN_ FA NA (NA.isTup (.head _)) hh rfl rfl fun h9 F9 N9 => ?_
        k_steps
        rename Fr _ _ _ _ => FF
        rename News _ _ _ _ => NN
        exact Jn.intro ⟨_, _, _, _, _, FF, fun p hp => NN p (by rw [List.mem_singleton.mp hp]; repeat first | exact .head _ | apply List.Mem.tail), rfl, rfl, rfl, by rw [cut_dash ‹_› ‹_›, ← slice1, find_pos ‹_›]⟩
      · rename Fr _ _ _ _ => FA
        rename News _ _ _ _ => NA
        refine unpackN_ FA NA (NA.isTup (.head _)) hh rfl rfl fun h9 F9 N9 => ?_
        k_steps
        rename Fr _ _ _ _ => FF
        rename News _ _ _ _ => NN
        exact Jn.intro ⟨_, _, _, _, _, FF, fun p hp => NN p (by rw [List.mem_singleton.mp hp]; repeat first | exact .head _ | apply List.Mem.tail), rfl, rfl, rfl, by rw [cut_else ‹_› ‹_›, find_neg ‹_›, tx_nil]⟩
      · rename Fr _ _ _ _ => FA
        rename News _ _ _ _ => NA
        refine unpackN_ FA NA (NA.isTup (.head _)) hh rfl rfl fun h9 F9 N9 => ?_
        k_steps
        rename Fr _ _ _ _ => FF
        rename News _ _ _ _ => NN
        exact Jn.intro ⟨_, _, _, _, _, FF, fun p hp => NN p (by rw [List.mem_singleton.mp hp]; repeat first | exact .head _ | apply List.Mem.tail), rfl, rfl, rfl, by rw [cut_else ‹_› ‹_›, find_pos ‹_›]⟩
    · rintro h3 tk3 htk3 ⟨m3, p, tp, q, tq, F3, N3, g1, g2, g3, hpq⟩
      have hu3 : tk3 ≠ 0 := by have : k7 + 1 ≤ tk3 := htk3; omega
      have F8 := explL F3 [(_, _), (_, _), (_, _)] (by simp only [List.forall_mem_cons]; exact ⟨g1, g2, g3, List.forall_mem_nil _⟩)
      clear F3
      have hpre : tx p = preL (tx x) := by
        unfold preL; rw [← hy7, ← hpq]
      have hbld : (tx q).map pt = bldL (tx x) := by
        unfold bldL; rw [← hy7, ← hpq]
      have hcl := cutL_len (tx y)
      rw [← hpq, tx_len, tx_len, tx_len] at hcl
      have hpl : p.length ≤ 200 := by omega
      have hql : q.length ≤ 200 := by omega
      have hpP : Plain p := fun c hc => by
        have := pre_tail (tx x) c (by rw [← hpre]; exact hc)
        unfold isTail isDig at this; simp at this; omega
      tb_rel
      have hq2 := replace_tx q
      rw [hbld] at hq2
      have hql2 : (Txt.replace q (Str.ofString "+") (Str.ofString ".")).length ≤ 200 := by
        rw [← tx_len, hq2, ← hbld, List.length_map, tx_len]; exact hql
      rename Fr _ _ _ _ => FD
      rename News _ _ _ _ => ND
      generalize Txt.replace q (Str.ofString "+") (Str.ofString ".") = q6 at hq2 hql2 FD ⊢
      have hqP : Plain q6 := fun c hc => by
        have := bld_tail (tx x) c (by rw [← hq2]; exact hc)
        unfold isTail isDig at this; simp at this; omega
      have hbq := bad_eq hne
      have ep : (p != Str.ofString "") = !(preL (tx x)).isEmpty := by
        rw [ne_str, tx_nil, hpre]; cases preL (tx x) <;> rfl
      have eq6 : (q6 != Str.ofString "") = !(bldL (tx x)).isEmpty := by
        rw [ne_str, tx_nil, hq2]; cases bldL (tx x) <;> rfl
      have rp : (p != Str.ofString "") = true → wrongL true (preL (tx x)) = true → badC (tx x) = true := fun h1 h2 => by
        rw [ep] at h1
        rw [hbq]; unfold optL
        rw [if_neg (by simpa using h1)]; exact refused_P h2
      have rq : (q6 != Str.ofString "") = true → wrongL false (bldL (tx x)) = true → badC (tx x) = true := fun h1 h2 => by
        rw [eq6] at h1
        rw [hbq]; unfold optL
        rw [if_neg (c := (bldL (tx x)).isEmpty = true) (by simpa using h1)]; exact refused_B h2
      have rn : ((p != Str.ofString "") = true → wrongL true (preL (tx x)) = false) → ((q6 != Str.ofString "") = true → wrongL false (bldL (tx x)) = false) → badC (tx x) = false := fun h1 h2 => by
        rw [ep] at h1; rw [eq6] at h2
        rw [hbq]; unfold optL refused
        cases hp1 : (preL (tx x)).isEmpty <;> cases hq1 : (bldL (tx x)).isEmpty <;> simp [hp1, hq1] at h1 h2 ⊢ <;> simp [h1, h2]
      refine wpAny_mono (Q := fun f s' => (f = .ret .none ∧ badC (tx x) = true ∧ ∃ h' tk', s' = { s with heap := h', toks := tk' } ∧ ∀ b o, s.heap.get? b = some o → h'.get? b = some o) ∨ (f = .next ∧ badC (tx x) = false ∧ ∃ h' tk', s' = { s with heap := h', toks := tk' } ∧ ∃ m' tq2, Fr s.heap L h' m' ∧ News s.heap L h' [(lr, listOf (strValues l).toArray nl)] ∧ m' (Str.ofString "rows") = some (.ref lr) ∧ m' (Str.ofString "pre") = some (.str p tp) ∧ m' (Str.ofString "build") = some (.str q6 tq2))) ?_ ?_ (fun _ _ e => e)
      · k_steps
        · refine callR (by assumption) (by assumption) (wrong_spec (b := true) (Ctx.keeps C (Fr.keep (by assumption))) (by simp only [depth_deeper]; omega) (by exact hh) (by rw [units_deeper]; omega) (Nat.le_trans hpl (by decide)) hpP) ?_
          rintro v h' tk' rfl F' N' kk
          clear kk
          cases hw : wrongL true (tx p)
          · k_steps
            · refine callR (by assumption) (by assumption) (wrong_spec (b := false) (Ctx.keeps C (Fr.keep (by assumption))) (by simp only [depth_deeper]; omega) (by exact hh) (by rw [units_deeper]; omega) (Nat.le_trans hql2 (by decide)) hqP) ?_
              rintro v h' tk' rfl F' N' kk
              clear kk
              cases hw2 : wrongL false (tx q6)
              · k_steps
                exact .inr ⟨rfl, rn (fun _ => by rw [← hpre]; exact hw) (fun _ => by rw [← hq2]; exact hw2), _, _, rfl, _, _, ‹Fr _ _ _ _›, ‹News _ _ _ _›, rfl, rfl, rfl⟩
              · k_steps
                exact .inl ⟨rfl, rq ‹_› (by rw [← hq2]; exact hw2), _, _, rfl, Fr.keep ‹Fr _ _ _ _›⟩
            · exact .inr ⟨rfl, rn (fun _ => by rw [← hpre]; exact hw) (fun e => absurd e (by rw [‹(q6 != _) = false›]; decide)), _, _, rfl, _, _, ‹Fr _ _ _ _›, ‹News _ _ _ _›, rfl, rfl, rfl⟩
          · k_steps
            exact .inl ⟨rfl, rp ‹_› (by rw [← hpre]; exact hw), _, _, rfl, Fr.keep ‹Fr _ _ _ _›⟩
        · refine callR (by assumption) (by assumption) (wrong_spec (b := false) (Ctx.keeps C (Fr.keep (by assumption))) (by simp only [depth_deeper]; omega) (by exact hh) (by rw [units_deeper]; omega) (Nat.le_trans hql2 (by decide)) hqP) ?_
          rintro v h' tk' rfl F' N' kk
          clear kk
          cases hw2 : wrongL false (tx q6)
          · k_steps
            exact .inr ⟨rfl, rn (fun e => absurd e (by rw [‹(p != _) = false›]; decide)) (fun _ => by rw [← hq2]; exact hw2), _, _, rfl, _, _, ‹Fr _ _ _ _›, ‹News _ _ _ _›, rfl, rfl, rfl⟩
          · k_steps
            exact .inl ⟨rfl, rq ‹_› (by rw [← hq2]; exact hw2), _, _, rfl, Fr.keep ‹Fr _ _ _ _›⟩
        · exact .inr ⟨rfl, rn (fun e => absurd e (by rw [‹(p != _) = false›]; decide)) (fun e => absurd e (by rw [‹(q6 != _) = false›]; decide)), _, _, rfl, _, _, ‹Fr _ _ _ _›, ‹News _ _ _ _›, rfl, rfl, rfl⟩
      · rintro f s' (⟨rfl, hb, h', tk', rfl, kk⟩ | ⟨rfl, hb, h', tk', rfl, m9, tq2, F8, N9, g1, g2, g3⟩)
        · refine Ret.intro ?_ kk
          unfold Due; rw [if_pos hb]
        · have F9 := explL F8 [(_, _), (_, _), (_, _)] (by simp only [List.forall_mem_cons]; exact ⟨g1, g2, g3, List.forall_mem_nil _⟩)
          clear F8
          k_steps
          have hmem : ∀ q ∈ l, isNum (tx q.1) ∧ q.1.length ≤ 300 := fun q hq => by
            have h1 : tx q.1 ∈ (openL 3 (tx x)).1 := by rw [← hl1]; exact List.mem_map_of_mem hq
            have h2 := row_len (x := tx x) 3 (tx x) _ h1
            rw [tx_len, tx_len] at h2
            exact ⟨openL_nums 3 (tx x) _ h1, by omega⟩
          refine comp_list (fun v r => ∃ a u t, v = .str a u ∧ r = .int (numL (tx a)) t) hh (by decide) (by decide) rfl (by decide) rfl F9 N9 (isListOf (h₀ := s.heap) (L := L) (N9 _ (.head _))) (by simp [strValues]; rw [sizeLine_eq]; omega) (fun h => ?_) ?_ ?_
          · k_steps
            exact h
          · intro C1 v s₂ m₂ E' hv hn hm hk
            obtain ⟨⟨qa, qu⟩, hq, rfl⟩ := List.mem_map.mp (show v ∈ l.map fun q => Value.str q.1 q.2 from hv)
            obtain ⟨⟨hm1, hm2⟩, hm3⟩ := hmem _ hq
            dsimp only at hm hm1 hm2 hm3
            have T := T.keeps (fun b o e => hk b o (F9.keep b o e))
            have C := Ctx.keeps C (fun b o e => hk b o (F9.keep b o e))
            k_steps
            refine gnameB (v := .type "int") C (by rfl) Boot.«int» (by decide) ?_
            k_steps
            refine call_int hm2 hm1 hm3 ?_
            k_steps
            all_goals first | exact ⟨_, _, rfl, fun _ _ e => e⟩ | exact ⟨_, _, _, rfl, rfl⟩
          · intro D2 n2 ys h5 tk5 F5 N5 hP
            k_steps
            rename Fr _ _ _ _ => FF
            rename News _ _ _ _ => NN
            refine Ret.intro ?_ FF.keep
            unfold Due
            rw [if_neg (by rw [hb]; decide)]
            exact ⟨_, D2, ys, p, q6, tp, tq2, rfl, NN.isTup (.head _), ⟨n2, (NN _ (.tail _ (.head _))).1⟩, (NN _ (.tail _ (.head _))).2.2, (NN _ (.head _)).2.2, hl1 ▸ paired_rows hP, hpre, hq2⟩
end Mine
end
section
set_option maxRecDepth 100000
local macro_rules | `(tactic| k_steps) => `(tactic| ((try dsimp only); repeat' (first | ((fail_if_success (with_reducible show PySem.wpAny _ _ (PySem.pyIter (PySem.Value.ref _)) _ _ _)); (fail_if_success (with_reducible show PySem.wpAny _ _ (PySem.exec (PySem.Stmt.While _ _ _ _) _) _ _ _)); first | (with_reducible refine PySem.wpAny_execs_cons ?_) | ((try dsimp only); walk1)) | fail "no step")))
local macro_rules | `(tactic| tb_rel) => `(tactic| ((try dsimp only); repeat' (first | ((fail_if_success (with_reducible show PySem.wpAny _ _ (PySem.exec (PySem.Stmt.If _ _ _ _) _) _ _ _)); (fail_if_success (with_reducible show PySem.wpAny _ _ (PySem.pyIter (PySem.Value.ref _)) _ _ _)); (fail_if_success (with_reducible show PySem.wpAny _ _ (PySem.exec (PySem.Stmt.While _ _ _ _) _) _ _ _)); first | (with_reducible refine PySem.wpAny_execs_cons ?_) | ((try dsimp only); walk1)) | fail "no step")))
local macro_rules | `(tactic| k_handed) => `(tactic| assumption)
namespace Mine
open PySem PySem.W PyProof.Rows PySem.Calls
local macro_rules | `(tactic| tb_start) => `(tactic| (have X := Ctx.K (by assumption); revert X; delta PR; k_fill; intro X; refine' enter (by assumption) (by k_is) (by k_is) (Nat.lt_trans (by assumption) (by decide)) ?hb (locs ?hl) ?_ rfl rfl rfl (by decide)))
variable {w : World} {loose : List Str} {mg mb : Str → Option Value} {mean : ExcName → Option Value} {A : Around} {s : Shared} {E : Value → Shared → Prop}

theorem call_iter_tup {prog : Program} {A : Around} {E : Value → Shared → Prop} {T : Addr} {items : Array Value} {Q : Value → Shared → Prop} (ht : IsTup s.heap T items)
    (h : Q (.ref s.heap.objs.size) { s with heap := s.heap.push { cls := .type "tuple_iterator", data := .fields #[.ref T, .int 0 0] } }) : wpAny (model prog w) A (call (.builtin "iter") [.ref T]) Q E s := by
  refine call_function_entry (by decide +kernel) (by decide +kernel) kdk_entry_iter (kdk_args_iter _) ?_
  unfold Builtin.«iter»
  refine wpAny_bind (m := PySem.someArgs "iter" 1 2 _) (wpAny_of_eq (a := [Value.ref T]) (by first | rfl | kernel_rfl) ?_)
  dsimp only
  refine wpAny_bind (wpAny_pyIter_tuple ht ?_)
  exact wpAny_pure ⟨_, rfl, h⟩
theorem ne_cls {h : Heap} {a b : Addr} {o o' : Obj} (e1 : h.get? a = some o) (e2 : h.get? b = some o') (hc : o.cls ≠ o'.cls) : a ≠ b := fun e => by
  rw [e, e2] at e1; injection e1 with e1; exact hc (by rw [← e1])
theorem keeps0 {B g h h' : Heap} {L : Addr} {m : Str → Option Value} {news : List (Addr × Obj)} (hg : hideAll h (news.map (·.1)) = g) (F : Fr g L h' m) (K : Known B h news) (N : ∀ p ∈ news, h'.get? p.1 = some p.2) : ∀ b o, h.get? b = some o → h'.get? b = some o := by
  subst hg
  exact fun b o e => keeps_all (ps := []) F (fun p hp _ o e => by rw [(K p hp).1] at e; cases e; exact N p hp) b o (fun q => nomatch q) e
set_option maxHeartbeats 4000000 in
theorem iter_spec {B : Heap} (C : Ctx w loose mg mb mean B) (hB : ∀ b o, B.get? b = some o → s.heap.get? b = some o) (hd : A.depth < 450) (hh : A.handled = none) {a dx : Addr} {k : Nat} {t1 t2 t3 t4 t5 t6 t7 t8 : Tok} {v1 v2 v3 vp vb : Value} {c1 c2 : Addr} {b : Bool}
    (K : Known B s.heap [(a, instObj 457 dx), (dx, dictOf [en w "major" t1 v1, en w "minor" t2 v2, en w "patch" t3 v3, en w "prerelease" t4 vp, en w "build" t5 vb, en w "partial" t6 (.bool b), en w "_cmp_precedence_key" t7 (.ref c1), en w "_sort_precedence_key" t8 (.ref c2)] k)]) (w1 : handedIn v1 = true) (w2 : handedIn v2 = true) (w3 : handedIn v3 = true) (wp : handedIn vp = true) (wb : handedIn vb = true) :
    codeAny (model PR w) A (.call (.ref 382) ⟨[.ref a], []⟩) (Ret s fun v h' => ∃ I T, v = .ref I ∧ IsTupIter h' I T 0 ∧ IsTup h' T #[v1, v2, v3, vp, vb] ∧ I ≠ T ∧ s.heap.get? I = none) s := by
  have CB := C.keeps hB
  (have X := CB.K; revert X; delta PR; k_fill; intro X; refine' enter CB (by k_is) (by k_is) (Nat.lt_trans hd (by decide)) ?hb (locs ?hl) ?_ rfl rfl rfl (by decide))
  case hb => exact BindsTo.of_eq (binds := [("self", .ref a)]) rfl
  case hl => rfl
  intro L h₁ tk hL htk F0 C'
  obtain ⟨F, N, hBg, hgn⟩ := ground_of F0 hB K
  have C := C.keeps hBg
  clear C' CB X
  generalize hg : hideAll s.heap _ = g at F N hBg hgn C
  have X := C.K
  revert X; delta PR; k_fill; intro X
  have T := C.T
  clear F0
  k_steps
  rename Fr _ _ _ _ => F2
  rename News _ _ _ _ => N2
  refine call_iter_tup (N2.isTup (.head _)) ?_
  obtain ⟨D, eD⟩ := nm N2
  subst eD
  have F3 := F2.push { cls := .type "tuple_iterator", data := .fields #[.ref D, .int 0 0] }
  have N3 := News.push F2 N2 { cls := .type "tuple_iterator", data := .fields #[.ref D, .int 0 0] } rfl
  generalize hI : Array.size _ = I at N3 ⊢
  generalize Heap.push _ _ = h3 at F3 N3 ⊢
  clear F2 N2
  k_steps
  refine Ret.intro ⟨I, D, rfl, ⟨_, (N3 _ (.head _)).1, rfl, rfl⟩, N3.isTup (.tail _ (.head _)), ?_, ?_⟩ (keeps0 hg F3 K fun p hp => (N3 p (.tail _ (.tail _ hp))).1)
  · exact fun e => ne_cls (N3 _ (.head _)).1 (N3 _ (.tail _ (.head _))).1 (by simp) e
  · cases e : s.heap.get? I with
    | none => rfl
    | some o =>
      have hi : I ∉ [a, dx] := fun hm => by
        rcases List.mem_cons.mp hm with e1 | hm
        · exact ne_cls (N3 _ (.head _)).1 (N3 _ (.tail _ (.tail _ (.head _)))).1 (by simp) e1
        · exact ne_cls (N3 _ (.head _)).1 (N3 _ (.tail _ (.tail _ (.tail _ (.head _))))).1 (by simp) (List.mem_singleton.mp hm)
      have := hideAll_get [a, dx] e hi
      rw [show hideAll s.heap [a, dx] = g from hg, (N3 _ (.head _)).2.2] at this
      cases this
end Mine
end
section
set_option maxRecDepth 100000
local macro_rules | `(tactic| k_steps) => `(tactic| ((try dsimp only); repeat' (first | ((fail_if_success (with_reducible show PySem.wpAny _ _ (PySem.pyIter (PySem.Value.ref _)) _ _ _)); (fail_if_success (with_reducible show PySem.wpAny _ _ (PySem.binaryOp PySem.Operator.Mod _ _) _ _ _)); (fail_if_success (with_reducible show PySem.wpAny _ _ (PySem.truthy (PySem.Value.ref _)) _ _ _)); (fail_if_success (with_reducible show PySem.wpAny _ _ ((PySem.call (PySem.Value.builtin "str.join") _ _)) _ _ _)); (fail_if_success (with_reducible show PySem.wpAny _ _ ((PySem.compareOp PySem.CmpOp.Eq PySem.Value.none (PySem.Value.ref _))) _ _ _)); (fail_if_success (with_reducible show PySem.wpAny _ _ ((PySem.compareOp PySem.CmpOp.Eq (PySem.Value.ref _) (PySem.Value.ref _))) _ _ _)); (fail_if_success (with_reducible show PySem.wpAny _ _ (PySem.exec (PySem.Stmt.While _ _ _ _) _) _ _ _)); first | (with_reducible refine PySem.wpAny_execs_cons ?_) | ((try dsimp only); walk1)) | fail "no step")))
local macro_rules | `(tactic| tb_rel) => `(tactic| ((try dsimp only); repeat' (first | ((fail_if_success (with_reducible show PySem.wpAny _ _ (PySem.exec (PySem.Stmt.If _ _ _ _) _) _ _ _)); (fail_if_success (with_reducible show PySem.wpAny _ _ (PySem.pyIter (PySem.Value.ref _)) _ _ _)); (fail_if_success (with_reducible show PySem.wpAny _ _ (PySem.binaryOp PySem.Operator.Mod _ _) _ _ _)); (fail_if_success (with_reducible show PySem.wpAny _ _ (PySem.truthy (PySem.Value.ref _)) _ _ _)); (fail_if_success (with_reducible show PySem.wpAny _ _ ((PySem.call (PySem.Value.builtin "str.join") _ _)) _ _ _)); (fail_if_success (with_reducible show PySem.wpAny _ _ ((PySem.compareOp PySem.CmpOp.Eq PySem.Value.none (PySem.Value.ref _))) _ _ _)); (fail_if_success (with_reducible show PySem.wpAny _ _ ((PySem.compareOp PySem.CmpOp.Eq (PySem.Value.ref _) (PySem.Value.ref _))) _ _ _)); (fail_if_success (with_reducible show PySem.wpAny _ _ (PySem.exec (PySem.Stmt.While _ _ _ _) _) _ _ _)); first | (with_reducible refine PySem.wpAny_execs_cons ?_) | ((try dsimp only); walk1)) | fail "no step")))
local macro_rules | `(tactic| k_handed) => `(tactic| assumption)
namespace Mine
open PySem PySem.W PyProof.Rows PySem.Calls
local macro_rules | `(tactic| tb_start) => `(tactic| (have X := Ctx.K (by assumption); revert X; delta PR; k_fill; intro X; refine' enter (by assumption) (by k_is) (by k_is) (Nat.lt_trans (by assumption) (by decide)) ?hb (locs ?hl) ?_ rfl rfl rfl (by decide)))
variable {w : World} {loose : List Str} {mg mb : Str → Option Value} {mean : ExcName → Option Value} {A : Around} {s : Shared} {E : Value → Shared → Prop}

theorem opt_handed {v : Value} {g : Option (List Nat)} (h : OptI v g) : handedIn v = true := by
  cases g with
  | none => obtain rfl := h; rfl
  | some D => obtain ⟨t, rfl⟩ := h; rfl
theorem tail_handed {h : Heap} {v : Value} {o : Option (List (Str × Tok))} (x : TailV h v o) : handedIn v = true := by
  cases o with
  | none => obtain rfl := x; rfl
  | some D => obtain ⟨a, rfl, _⟩ := x; rfl
theorem digits_lt : ∀ (D : List Nat) (a : Nat), (∀ c ∈ D, isDig c = true) → D.foldl (fun acc c => acc * 10 + (c - 48)) a < (a + 1) * 10 ^ D.length
  | [], a, _ => by simp
  | c :: r, a, h => by
    have hc : 48 ≤ c ∧ c ≤ 57 := by have := h c (.head _); unfold isDig at this; simp at this; exact this
    have := digits_lt r (a * 10 + (c - 48)) fun d hd => h d (.tail _ hd)
    rw [List.foldl_cons, List.length_cons, Nat.pow_succ]
    refine Nat.lt_of_lt_of_le this ?_
    rw [Nat.mul_comm (10 ^ r.length) 10, ← Nat.mul_assoc]
    exact Nat.mul_le_mul_right _ (by omega)
def dashL (P : Option (List Nat)) : List Nat := match P with | none => [] | some p => 45 :: p
theorem isTuple_of {h : Heap} {a : Addr} {items : Array Value} (t : IsTup h a items) : h.IsTuple a items := by
  obtain ⟨o, h1, h2, h3⟩ := t
  exact ⟨o, h1, h2, h3⟩
theorem splitL_ne (c : Nat) : ∀ l : List Nat, splitL c l ≠ []
  | [] => by simp [splitL]
  | a :: r => by
    unfold splitL
    have := splitL_ne c r
    split
    · simp
    · split <;> simp_all
theorem tail_sizes {l : List (Str × Tok)} {p : List Nat} (e : l.map (fun q => tx q.1) = splitL 46 p) (hp : p.length ≤ 250) : l.length ≤ 400 ∧ (∀ q ∈ l, q.1.length ≤ 300) ∧ someL (some l) = true ∧ l ≠ [] := by
  have hl : l.length = (splitL 46 p).length := by rw [← e, List.length_map]
  have h1 := split_len (c := 46) p
  have hne : l ≠ [] := fun q => by subst q; exact splitL_ne 46 p e.symm
  refine ⟨by omega, fun q hq => ?_, ?_, hne⟩
  · have : tx q.1 ∈ splitL 46 p := e ▸ List.mem_map_of_mem (f := fun q => tx q.1) hq
    have := split_item_len this
    rw [tx_len] at this; omega
  · cases l with
    | nil => exact absurd rfl hne
    | cons a r => rfl
theorem tail_join {l : List (Str × Tok)} {p : List Nat} (e : l.map (fun q => tx q.1) = splitL 46 p) : tx (Str.join (Str.ofString ".") (l.map (·.1))) = p := by
  rw [tx_join (c := 46) (by decide +kernel), List.map_map]
  show joinL 46 (l.map fun q => tx q.1) = p
  rw [e, join_split_map]
  conv => rhs; rw [← List.map_id p]
  exact List.map_congr_left fun a _ => by by_cases h : a = 46 <;> simp [h]
theorem pre_cases {pre : Option (List (Str × Tok))} {P Q : Option (List Nat)} (ep : pre.map (fun l => l.map fun q => tx q.1) = preOut true P Q) :
    (∃ p l, P = some p ∧ pre = some l ∧ l.map (fun q => tx q.1) = splitL 46 p) ∨ (P = none ∧ Q = none ∧ pre = none) ∨ (∃ q, P = none ∧ Q = some q ∧ pre = some []) := by
  cases P with
  | some p =>
    cases pre with
    | none => cases ep
    | some l => exact .inl ⟨p, l, rfl, rfl, Option.some.inj ep⟩
  | none =>
    cases Q with
    | none =>
      cases pre with
      | none => exact .inr (.inl ⟨rfl, rfl, rfl⟩)
      | some l => cases ep
    | some q =>
      cases pre with
      | none => cases ep
      | some l =>
        have : l.map (fun q => tx q.1) = [] := Option.some.inj ep
        exact .inr (.inr ⟨q, rfl, rfl, by rw [List.map_eq_nil_iff.mp this]⟩)
theorem bld_cases {bld : Option (List (Str × Tok))} {Q : Option (List Nat)} (eb : bld.map (fun l => l.map fun q => tx q.1) = bldOut true Q) :
    (∃ q l, Q = some q ∧ bld = some l ∧ l.map (fun q => tx q.1) = splitL 46 q) ∨ (Q = none ∧ bld = none) := by
  cases Q with
  | some p =>
    cases bld with
    | none => cases eb
    | some l => exact .inl ⟨p, l, rfl, rfl, Option.some.inj eb⟩
  | none =>
    cases bld with
    | none => exact .inr ⟨rfl, rfl⟩
    | some l => cases eb
theorem num_str {D : List Nat} (h : NumZ D) : tx (Str.ofString (toString (numL D : Int))) = D ∧ (Str.ofString (toString (numL D : Int))).length ≤ 300 ∧ ((numL D : Int)).natAbs.log2 < 1920 := by
  have e : toString (numL D : Int) = toString (numL D) := rfl
  have h1 : tx (Str.ofString (toString (numL D))) = D := by
    rw [str_num h.1.2]
    unfold normD
    by_cases hz : D.head? = some 48
    · rw [h.2.1 hz]; rfl
    · rw [dw_id hz, if_neg]; intro q; exact h.1.1 (List.isEmpty_iff.mp q)
  rw [e]
  refine ⟨h1, ?_, ?_⟩
  · rw [← tx_len, h1]; exact h.2.2
  · have hb := digits_lt D 0 h.1.2
    have h10 : 10 ^ D.length ≤ 10 ^ 300 := Nat.pow_le_pow_right (by decide) h.2.2
    have e3 : ((numL D : Int)).natAbs = NumText.digitsVal D := rfl
    rw [e3]
    by_cases hz : NumText.digitsVal D = 0
    · rw [hz]; decide
    · refine (Nat.log2_lt hz).mpr (Nat.lt_of_lt_of_le (Nat.lt_of_lt_of_le hb ?_) (Nat.pow_le_pow_right (by decide : 0 < 2) (by decide : 1000 ≤ 1920)))
      rw [Nat.zero_add, Nat.one_mul]
      exact Nat.le_trans h10 (by decide +kernel)
set_option maxHeartbeats 4000000 in
theorem str_spec {B : Heap} (C : Ctx w loose mg mb mean B) (hB : ∀ b o, B.get? b = some o → s.heap.get? b = some o) (hd : A.depth < 450) (hh : A.handled = none) (hu : A.units < 400) {a dx : Addr} {k : Nat} {t1 t2 t3 t4 t5 t6 t7 t8 : Tok} {v1 v2 v3 vp vb : Value} {c1 c2 : Addr}
    (K : Known B s.heap [(a, instObj 457 dx), (dx, dictOf [en w "major" t1 v1, en w "minor" t2 v2, en w "patch" t3 v3, en w "prerelease" t4 vp, en w "build" t5 vb, en w "partial" t6 (.bool true), en w "_cmp_precedence_key" t7 (.ref c1), en w "_sort_precedence_key" t8 (.ref c2)] k)]) {D0 : List Nat} {rs : List (List Nat)} {P Q : Option (List Nat)} {pre bld : Option (List (Str × Tok))} (o1 : OptI v1 (some D0)) (o2 : OptI v2 rs[0]?) (o3 : OptI v3 rs[1]?) (hr : ∀ D ∈ D0 :: rs, NumZ D) (hl : rs.length ≤ 2) (xp : TailV s.heap vp pre) (xb : TailV s.heap vb bld) (ep : pre.map (fun l => l.map fun q => tx q.1) = preOut true P Q) (eb : bld.map (fun l => l.map fun q => tx q.1) = bldOut true Q) (hP : isTl 1 P) (hQ : isTl 1 Q) (nP : ∀ p, P = some p → p.length ≤ 250) (nQ : ∀ p, Q = some p → p.length ≤ 250) :
    codeAny (model PR w) A (.call (.ref 389) ⟨[.ref a], []⟩) (Ret s fun v h' => ∃ y t, v = .str y t ∧ tx y = verL (D0 :: rs) P Q) s := by
  have CB := C.keeps hB
  (have X := CB.K; revert X; delta PR; k_fill; intro X; refine' enter CB (by k_is) (by k_is) (Nat.lt_trans hd (by decide)) ?hb (locs ?hl) ?_ rfl rfl rfl (by decide))
  case hb => exact BindsTo.of_eq (binds := [("self", .ref a)]) rfl
  case hl => rfl
  intro L h₁ tk hL htk F0 C'
  obtain ⟨F, N, hBg, hgn⟩ := ground_of F0 hB K
  have C := C.keeps hBg
  clear C' CB X
  have xp' : TailV (hideAll s.heap _) vp pre := xp.hide (fun p hp => (K p hp).1) rfl
  have xb' : TailV (hideAll s.heap _) vb bld := xb.hide (fun p hp => (K p hp).1) rfl
  generalize hg : hideAll s.heap _ = g at F N hBg hgn C xp' xb'
  have X := C.K
  revert X; delta PR; k_fill; intro X
  have T := C.T
  clear F0
  obtain ⟨u1, rfl⟩ := o1
  have w2 : handedIn v2 = true := opt_handed o2
  have w3 : handedIn v3 = true := opt_handed o3
  have wp : handedIn vp = true := tail_handed xp
  have wb : handedIn vb = true := tail_handed xb
  tb_rel
  refine mod_d (num_str (hr _ (.head _))).2.2 (Int.natCast_nonneg _) (Nat.le_trans (num_str (hr _ (.head _))).2.1 (by decide)) fun t' k' => ?_
  tb_rel
  rename Fr _ _ _ _ => F2
  rename News _ _ _ _ => N2
  have NZ := fun D h => num_str (hr D h)
  have N0 := (NZ _ (.head _)).2.1
  refine wpAny_join (fun h' => ∃ m' y u, Fr g L h' m' ∧ News g L h' [(a, instObj 457 dx), (dx, dictOf [en w "major" t1 (.int (numL D0) u1), en w "minor" t2 v2, en w "patch" t3 v3, en w "prerelease" t4 vp, en w "build" t5 vb, en w "partial" t6 (.bool true), en w "_cmp_precedence_key" t7 (.ref c1), en w "_sort_precedence_key" t8 (.ref c2)] k)] ∧ m' (Str.ofString "self") = some (.ref a) ∧ m' (Str.ofString "version") = some (.str y u) ∧ y.length ≤ 700 ∧ tx y = joinL 46 (D0 :: rs.take 1)) ?_ ?_
  · match rs, hl, o2, NZ with
    | [], _, o2, NZ =>
      obtain rfl : v2 = .none := o2
      k_steps
      exact Jn.intro ⟨_, _, _, F2, N2, rfl, rfl, Nat.le_trans N0 (by decide), (NZ _ (.head _)).1⟩
    | D1 :: r, _, o2, NZ =>
      obtain ⟨u2, rfl⟩ := o2
      have N1 := (NZ _ (.tail _ (.head _))).2.1
      k_steps
      rename News _ _ _ _ => N3
      refine mod_sd (N3.isTup (.head _)) (Nat.le_trans N0 (by decide)) (NZ _ (.tail _ (.head _))).2.2 (Int.natCast_nonneg _) (Nat.le_trans N1 (by decide)) fun t' k' => ?_
      k_steps
      rename Fr _ _ _ _ => F4
      rename News _ _ _ _ => N4
      refine Jn.intro ⟨_, _, _, F4, fun p hp => N4 p (.tail _ hp), rfl, rfl, ?_, ?_⟩
      · rw [Str.length_append, Str.length_append, show (Str.ofString ".").length = 1 by decide]; omega
      · rw [tx_append, tx_append, (NZ _ (.head _)).1, (NZ _ (.tail _ (.head _))).1]
        simp [joinL]; rfl
  clear F2 N2
  rintro h2 tk2 ⟨m2, y2, u2, F2, N2, em1, em2, hy2, ey2⟩
  have F3 := explL F2 [(_, _), (_, _)] (by simp only [List.forall_mem_cons]; exact ⟨em1, em2, List.forall_mem_nil _⟩)
  clear F2
  tb_rel
  refine wpAny_join (fun h' => ∃ m' y u, Fr g L h' m' ∧ News g L h' [(a, instObj 457 dx), (dx, dictOf [en w "major" t1 (.int (numL D0) u1), en w "minor" t2 v2, en w "patch" t3 v3, en w "prerelease" t4 vp, en w "build" t5 vb, en w "partial" t6 (.bool true), en w "_cmp_precedence_key" t7 (.ref c1), en w "_sort_precedence_key" t8 (.ref c2)] k)] ∧ m' (Str.ofString "self") = some (.ref a) ∧ m' (Str.ofString "version") = some (.str y u) ∧ y.length ≤ 1100 ∧ tx y = joinL 46 (D0 :: rs)) ?_ ?_
  · match rs, hl, o3, NZ, ey2 with
    | [], _, o3, NZ, ey2 =>
      obtain rfl : v3 = .none := o3
      k_steps
      exact Jn.intro ⟨_, _, _, F3, N2, rfl, rfl, Nat.le_trans hy2 (by decide), ey2⟩
    | [D1], _, o3, NZ, ey2 =>
      obtain rfl : v3 = .none := o3
      k_steps
      exact Jn.intro ⟨_, _, _, F3, N2, rfl, rfl, Nat.le_trans hy2 (by decide), ey2⟩
    | [D1, D2], _, o3, NZ, ey2 =>
      obtain ⟨u3, rfl⟩ := o3
      have N1 := (NZ _ (.tail _ (.tail _ (.head _)))).2.1
      k_steps
      rename News _ _ _ _ => N3
      refine mod_sd (N3.isTup (.head _)) (Nat.le_trans hy2 (by decide)) (NZ _ (.tail _ (.tail _ (.head _)))).2.2 (Int.natCast_nonneg _) (Nat.le_trans N1 (by decide)) fun t' k' => ?_
      k_steps
      rename Fr _ _ _ _ => F4
      rename News _ _ _ _ => N4
      refine Jn.intro ⟨_, _, _, F4, fun p hp => N4 p (.tail _ hp), rfl, rfl, ?_, ?_⟩
      · rw [Str.length_append, Str.length_append, show (Str.ofString ".").length = 1 by decide]; omega
      · rw [tx_append, tx_append, ey2, (NZ _ (.tail _ (.tail _ (.head _)))).1]
        simp [joinL]; rfl
  clear F3 N2 em1 em2 ey2 hy2
  rintro h3 tk3 ⟨m3, y3, u3, F3, N3, em1, em2, hy3, ey3⟩
  have F4 := explL F3 [(_, _), (_, _)] (by simp only [List.forall_mem_cons]; exact ⟨em1, em2, List.forall_mem_nil _⟩)
  clear F3
  tb_rel
  refine wpAny_join (fun h' => ∃ m' y u, Fr g L h' m' ∧ News g L h' [(a, instObj 457 dx), (dx, dictOf [en w "major" t1 (.int (numL D0) u1), en w "minor" t2 v2, en w "patch" t3 v3, en w "prerelease" t4 vp, en w "build" t5 vb, en w "partial" t6 (.bool true), en w "_cmp_precedence_key" t7 (.ref c1), en w "_sort_precedence_key" t8 (.ref c2)] k)] ∧ m' (Str.ofString "self") = some (.ref a) ∧ m' (Str.ofString "version") = some (.str y u) ∧ y.length ≤ 2000 ∧ tx y = joinL 46 (D0 :: rs) ++ dashL P) ?_ ?_
  · rcases pre_cases ep with ⟨p, l, e1, e2, e3⟩ | ⟨e1, e2, e3⟩ | ⟨q, e1, e2, e3⟩
    · subst e1 e2
      obtain ⟨pa, rfl, tp⟩ := xp'
      have hq := tail_sizes e3 (nP p rfl)
      k_steps
      refine truthy_tail (o := some l) ⟨pa, rfl, tp.keeps F4.keep⟩ (fun _ e => by cases e; exact hq.1) fun k1 => ?_
      rw [hq.2.2.1]
      k_steps
      refine tup_join (tp.keeps F4.keep) hq.2.1 hq.1 (by decide +kernel) fun t' k' => ?_
      have hj := tail_join e3
      have hjl : (Str.join (Str.ofString ".") (l.map (·.1))).length ≤ 250 := by rw [← tx_len, hj]; exact nP p rfl
      generalize Str.join (Str.ofString ".") (l.map (·.1)) = z at hj hjl ⊢
      k_steps
      rename News _ _ _ _ => N5
      rename Fr _ _ _ _ => F5
      refine Jn.intro ⟨_, _, _, F5, by first | exact N5 | exact N3 | exact fun p hp => N5 p (.tail _ (.tail _ hp)), rfl, rfl, ?_, ?_⟩
      · rw [Str.length_append, Str.length_append, Str.length_append, show (Str.ofString "-").length = 1 by decide, show Str.empty.length = 0 from rfl]; omega
      · rw [tx_append, tx_append, tx_append, ey3, hj, show tx Str.empty = [] from rfl, show tx (Str.ofString "-") = [45] by decide +kernel]
        simp [dashL]
    · subst e1 e3
      obtain rfl : vp = .none := xp'
      k_steps
      rename Fr _ _ _ _ => F5
      rename News _ _ _ _ => N5
      refine SeqAt.RcAt.none_tuple (isTuple_of (N5.isTup (.head _))) (by rw [units_deeper]; exact Nat.lt_trans (Nat.add_lt_add_right hu 3) (by decide)) _ _ _ _ ?_
      k_steps
      rename Fr _ _ _ _ => F6
      rename News _ _ _ _ => N6
      refine Jn.intro ⟨_, _, _, F6, fun p hp => N6 p (.tail _ hp), rfl, rfl, Nat.le_trans hy3 (by decide), ?_⟩
      rw [ey3]; simp [dashL]
    · subst e1 e3
      obtain ⟨pa, rfl, tp⟩ := xp'
      obtain ⟨pb, lb, rfl⟩ : ∃ pb : Addr, ∃ lb : Unit, vb = .ref pb := by
        rcases bld_cases eb with ⟨_, l, _, e7, _⟩ | ⟨e7, _⟩
        · subst e7
          obtain ⟨pb, e, _⟩ := xb'
          exact ⟨pb, (), e⟩
        · rw [e2] at e7; cases e7
      k_steps
      refine truthy_tail (o := some []) ⟨pa, rfl, tp.keeps F4.keep⟩ (fun _ e => by cases e; exact Nat.zero_le _) fun k1 => ?_
      k_steps
      rename Fr _ _ _ _ => F5
      rename News _ _ _ _ => N5
      refine SeqAt.RcAt.tuples (e := fun _ => true) (isTuple_of (tp.keeps F5.keep)) (isTuple_of (N5.isTup (.head _))) (by rw [units_deeper]; exact Nat.lt_trans (Nat.add_lt_add_right hu 3) (by decide)) (fun j h1 _ => absurd h1 (Nat.not_lt_zero _)) _ _ _ _ ?_
      k_steps
      rename Fr _ _ _ _ => F6
      rename News _ _ _ _ => N6
      refine Jn.intro ⟨_, _, _, F6, fun p hp => N6 p (.tail _ hp), rfl, rfl, Nat.le_trans hy3 (by decide), ?_⟩
      rw [ey3]; simp [dashL]
  clear F4 N3 em1 em2 ey3 hy3
  rintro h4 tk4 ⟨m4, y4, u4, F5, N4, em1, em2, hy4, ey4⟩
  have F6 := explL F5 [(_, _), (_, _)] (by simp only [List.forall_mem_cons]; exact ⟨em1, em2, List.forall_mem_nil _⟩)
  clear F5
  tb_rel
  refine wpAny_join (fun h' => ∃ m' y u, Fr g L h' m' ∧ News g L h' [(a, instObj 457 dx), (dx, dictOf [en w "major" t1 (.int (numL D0) u1), en w "minor" t2 v2, en w "patch" t3 v3, en w "prerelease" t4 vp, en w "build" t5 vb, en w "partial" t6 (.bool true), en w "_cmp_precedence_key" t7 (.ref c1), en w "_sort_precedence_key" t8 (.ref c2)] k)] ∧ m' (Str.ofString "self") = some (.ref a) ∧ m' (Str.ofString "version") = some (.str y u) ∧ y.length ≤ 4000 ∧ tx y = verL (D0 :: rs) P Q) ?_ ?_
  · have eJ : verL (D0 :: rs) P Q = (joinL 46 (D0 :: rs) ++ dashL P) ++ buildL Q := by unfold verL tailL; cases P <;> simp [dashL]
    rw [← ey4] at eJ
    rcases bld_cases eb with ⟨p, l, e1, e2, e3⟩ | ⟨e1, e2⟩
    · subst e1 e2
      obtain ⟨pa, rfl, tp⟩ := xb'
      have hq := tail_sizes e3 (nQ p rfl)
      k_steps
      refine truthy_tail (o := some l) ⟨pa, rfl, tp.keeps F6.keep⟩ (fun _ e => by cases e; exact hq.1) fun k1 => ?_
      rw [hq.2.2.1]
      k_steps
      refine tup_join (tp.keeps F6.keep) hq.2.1 hq.1 (by decide +kernel) fun t' k' => ?_
      have hj := tail_join e3
      have hjl : (Str.join (Str.ofString ".") (l.map (·.1))).length ≤ 250 := by rw [← tx_len, hj]; exact nQ p rfl
      generalize Str.join (Str.ofString ".") (l.map (·.1)) = z at hj hjl ⊢
      k_steps
      rename News _ _ _ _ => N7
      rename Fr _ _ _ _ => F7
      refine Jn.intro ⟨_, _, _, F7, by first | exact N7 | exact N4 | exact fun p hp => N7 p (.tail _ (.tail _ hp)), rfl, rfl, ?_, ?_⟩
      · rw [Str.length_append, Str.length_append, Str.length_append, show (Str.ofString "+").length = 1 by decide, show Str.empty.length = 0 from rfl]; omega
      · rw [tx_append, tx_append, tx_append, hj, show tx Str.empty = [] from rfl, show tx (Str.ofString "+") = [43] by decide +kernel, eJ]
        simp [buildL]
    · subst e1 e2
      obtain rfl : vb = .none := xb'
      k_steps
      rename Fr _ _ _ _ => F8
      rename News _ _ _ _ => N8
      refine SeqAt.RcAt.none_tuple (isTuple_of (N8.isTup (.head _))) (by rw [units_deeper]; exact Nat.lt_trans (Nat.add_lt_add_right hu 3) (by decide)) _ _ _ _ ?_
      k_steps
      rename Fr _ _ _ _ => F9
      rename News _ _ _ _ => N9
      refine Jn.intro ⟨_, _, _, F9, fun p hp => N9 p (.tail _ hp), rfl, rfl, Nat.le_trans hy4 (by decide), ?_⟩
      rw [eJ]; simp [buildL]
  clear F6 N4 em1 em2 ey4 hy4
  rintro h5 tk5 ⟨m5, y5, u5, F7, N5, em1, em2, hy5, ey5⟩
  have F8 := explL F7 [(_, _), (_, _)] (by simp only [List.forall_mem_cons]; exact ⟨em1, em2, List.forall_mem_nil _⟩)
  clear F7
  k_steps
  refine Ret.intro ⟨_, _, rfl, ey5⟩ (keeps0 hg F8 K fun p hp => (N5 p hp).1)
end Mine
end
section
set_option maxRecDepth 100000
namespace Mine
open PySem PySem.W PyProof.Rows PySem.Calls
section
variable {prog : Program} {w : World} {A : Around} {E : Value → Shared → Prop} {s : Shared} {K : Frag} {x C f : Addr} {ox : Obj} {od : Option Obj}
theorem spec_own {name : Str} {r : Option Value} {Q : Option Value → Shared → Prop} (X : K.In s.heap) (I : W.InstAt s.heap x ox C od) (e : findIn K (.ref C) name = some r) (h : Q r s) : wpAny (model prog w) A (specialOf (.ref x) name) Q E s := by
  unfold specialOf
  exact wpAny_bind (I.type.here ((looks_findIn X e).here h))
theorem pyIter_own {Q : Value → Shared → Prop} (X : K.In s.heap) (I : W.InstAt s.heap x ox C od) (e : findIn K (.ref C) (Str.ofString "__iter__") = some (some (.ref f))) (hf : isFn K (.ref f) = true)
    (h : wpAny (model prog w) A (call (.ref f) [.ref x]) (fun v s' => ∃ i T, v = .ref i ∧ IsTupIter s'.heap i T 0 ∧ Q v s') E s) : wpAny (model prog w) A (pyIter (.ref x)) Q E s := by
  unfold pyIter
  refine wpAny_bind (spec_own X I e ?_)
  dsimp only
  refine wpAny_bind ?_
  simp only [callSpecialIfBoundUnlessNone?, bindSpecialIfBound?]
  refine wpAny_holding (wpAny_bind (wpAny_bind (wpAny_bind (I.type.here ((looks_findIn X e).here ?_)))))
  dsimp only
  refine wpAny_bind (wpAny_askSetting (wpAny_ite ?_))
  have fin : ∀ {Q' : Option Value → Shared → Prop} {rf : Sem Value}, (∀ v s', (∃ i T, v = .ref i ∧ IsTupIter s'.heap i T 0 ∧ Q v s') → Q' (some v) s') →
      wpAny (model prog w) A (if (Value.ref f == Value.none) = true then (rf >>= fun v => pure (some v)) else (call (.ref f) [.ref x] >>= fun v => pure (some v))) Q' E s := fun hq => by
    rw [if_neg (by simp)]
    exact wpAny_bind (wpAny_mono h (fun v s' h' => wpAny_pure (hq v s' h')) fun _ _ h' => h')
  have post : ∀ v s', (∃ i T, v = .ref i ∧ IsTupIter s'.heap i T 0 ∧ Q v s') → wpAny (model prog w) A (do
      match ← specialOf v (Str.ofString "__next__") with
      | none => rule "iter.non-iterator"; raiseError "TypeError" s!"iter() returned non-iterator of type '{← typeNameOf v}'"
      | some _ => pure v) Q E s' := by
    rintro v s' ⟨i, T, rfl, ⟨oi, h1, h2, h3⟩, hq⟩
    refine wpAny_bind (wpAny_specialOf (name := Str.ofString "__next__") ⟨oi, h1, h2⟩ F.slot_tuple_iterator_next.lookup ?_)
    exact wpAny_pure hq
  split
  · exact wpAny_bind ((bind_fn X _ (beq_iff_eq.mp hf)).here (wpAny_pure (by exact fin post)))
  · exact wpAny_tryCatch (wpAny_bind ((bind_fn X _ (beq_iff_eq.mp hf)).here (wpAny_pure (by exact fin post))))
theorem collect_own {items : Array Value} {Q : List Value → Shared → Prop} (hh : A.handled = none) (X : K.In s.heap) (hx : s.heap.get? x = some ox) (I : ∀ h' : Heap, (∀ b o, s.heap.get? b = some o → h'.get? b = some o) → W.InstAt h' x ox C od)
    (e : findIn K (.ref C) (Str.ofString "__iter__") = some (some (.ref f))) (hf : isFn K (.ref f) = true) (e1 : findIn K (.ref C) (Str.ofString "__len__") = some none) (e2 : findIn K (.ref C) (Str.ofString "__length_hint__") = some none) (hn : items.size ≤ sizeLine)
    (h : ∀ s₁ : Shared, (∀ b o, s.heap.get? b = some o → s₁.heap.get? b = some o) → s₁.gens = s.gens → s₁.os = s.os → s₁.drawn = s.drawn → codeAny (model prog w) A.in1 (.call (.ref f) ⟨[.ref x], []⟩) (Ret s₁ fun v h' => ∃ I T, v = .ref I ∧ IsTupIter h' I T 0 ∧ IsTup h' T items ∧ I ≠ T ∧ s₁.heap.get? I = none) s₁)
    (hQ : ∀ s', (∀ b o, s.heap.get? b = some o → s'.heap.get? b = some o) → s'.gens = s.gens → s'.os = s.os → s'.drawn = s.drawn → Q items.toList s') : wpAny (model prog w) A (collect (.ref x)) Q E s := by
  have hSx : s.heap.objs.size ≠ x := fun q => Nat.lt_irrefl _ (q ▸ Heap.lt_size hx)
  unfold collect
  refine wpAny_bind (wpAny_runValue (codeAny_builtin F.entry_proto_collect ?_))
  rw [Around.under_plainId F.plain_proto_collect _]
  show wpAny _ A.in1 (newList [] >>= fun l => again (.builtin "list.__iadd__" ⟨[l, .ref x], []⟩)) _ _ s
  refine wpAny_bind (wpAny_newObj_type ?_)
  refine wpAny_pure ⟨plainId_quiet F.plain_list_iadd _, codeAny_builtin F.entry_list_iadd ?_⟩
  rw [Around.under_plainId F.plain_list_iadd _]
  show wpAny _ A.in1 (Builtin.List.listExtendWith (.ref s.heap.objs.size) (.ref x) (.ref s.heap.objs.size)) _ _ _
  have up : ∀ b o, s.heap.get? b = some o → (s.heap.push { cls := .type "list", data := .seq ([] : List Value).toArray }).get? b = some o := fun b o e => Heap.get?_push_of_some _ e
  have I₁ := I _ up
  have X₁ := X.keeps up
  unfold Builtin.List.listExtendWith
  refine wpAny_bind (I₁.type.here ?_)
  have h1 : Builtin.List.listSameRef (.ref s.heap.objs.size) (.ref x) = false := by simp [Builtin.List.listSameRef, hSx]
  have h2 : (Value.ref C == Value.type "list") = false := by simp
  have h3 : (Value.ref C == Value.type "tuple") = false := by simp
  simp only [h1, h2, h3, Bool.or_false, Bool.false_eq_true, if_false]
  refine wpAny_bind (pyIter_own X₁ I₁ e hf (wpAny_call (codeAny_mono (h _ up rfl rfl rfl) fun r s' hr => ?_)))
  obtain ⟨v, hA, tk, rfl, rfl, ⟨Ia, T, rfl, hit, htup, hne, hfresh⟩, kk⟩ := hr
  refine ⟨Ia, T, rfl, hit, ?_⟩
  have I₂ := I hA (fun b o e => kk b o (up b o e))
  have X₂ := X₁.keeps kk
  refine wpAny_bind (wpAny_holding ?_)
  unfold Builtin.List.listLengthHint
  refine wpAny_bind (spec_own X₂ I₂ e1 ?_)
  show wpAny _ A.in1 (specialOf (Value.ref x) (Str.ofString "__length_hint__") >>= _) _ _ _
  refine wpAny_bind (spec_own X₂ I₂ e2 ?_)
  refine wpAny_pure ?_
  show wpAny _ A.in1 (rule "list.extend.makes-room" >>= fun _ => Builtin.List.listTouch (.ref s.heap.objs.size) >>= fun _ =>
    again (.builtin "list.extend.loop" ⟨[.ref s.heap.objs.size, .ref Ia, .ref s.heap.objs.size], []⟩)) _ _ _
  refine wpAny_bind (wpAny_rule ?_)
  have hS₁ : hA.get? s.heap.objs.size = some { cls := .type "list", data := .seq ([] : List Value).toArray } := kk _ _ (Heap.get?_push_size _ rfl)
  have hIS : Ia ≠ s.heap.objs.size := fun q => by
    have : (s.heap.push { cls := .type "list", data := .seq ([] : List Value).toArray }).get? Ia = none := hfresh
    rw [q, Heap.get?_push_size _ rfl] at this; cases this
  have hTS : T ≠ s.heap.objs.size := fun q => by
    obtain ⟨o, g1, g2, _⟩ := htup
    rw [q, hS₁] at g1; cases g1; simp at g2
  refine wpAny_bind ?_
  show wpAny _ A.in1 (updateSeq s.heap.objs.size (·.push .none) >>= fun _ => updateSeq s.heap.objs.size (·.pop)) _ _ _
  refine wpAny_bind (wpAny_updateSeq hS₁ rfl ?_)
  have hS₂ := Heap.get?_update_self (Obj.mapSeq (·.push Value.none)) hS₁ rfl
  refine wpAny_updateSeq hS₂ rfl ?_
  have hS₃ := Heap.get?_update_self (Obj.mapSeq (·.pop)) hS₂ rfl
  have oth : ∀ b o, b ≠ s.heap.objs.size → hA.get? b = some o →
      ((hA.update s.heap.objs.size (Obj.mapSeq (·.push Value.none))).update s.heap.objs.size (Obj.mapSeq (·.pop))).get? b = some o :=
    fun b o hb e => (Heap.get?_update_other _ _ (Ne.symm hb)).trans ((Heap.get?_update_other _ _ (Ne.symm hb)).trans e)
  have st0 : IsTupIter ((hA.update s.heap.objs.size (Obj.mapSeq (·.push Value.none))).update s.heap.objs.size (Obj.mapSeq (·.pop))) Ia T 0 ∧ IsTup ((hA.update s.heap.objs.size (Obj.mapSeq (·.push Value.none))).update s.heap.objs.size (Obj.mapSeq (·.pop))) T items := by
    obtain ⟨o, g1, g2⟩ := hit
    obtain ⟨o', g3, g4⟩ := htup
    exact ⟨⟨o, oth _ _ hIS g1, g2⟩, ⟨o', oth _ _ hTS g3, g4⟩⟩
  refine wpAny_pure ⟨plainId_quiet F.plain_extend_loop _, codeAny_extend_loopS (Walks.tuple (by exact hh) Ia T hne.symm items).toS hn _ (by simp [Ne.symm hIS, Ne.symm hTS]) _ items.size 0 _ _ _ rfl (Nat.zero_le _) st0 hS₃ (ItemsOf.nil _) fun s' acc' c' hm hS' hacc => ?_⟩
  show wpAny _ A (load s.heap.objs.size >>= _) _ _ s'
  refine wpAny_bind (wpAny_load hS' ?_)
  have ea : acc' = items := by
    apply Array.ext
    · exact hacc.1
    · intro i h1 h2
      have : items[i]? = some acc'[i] := hacc.2 i _ (Array.getElem?_eq_getElem h1)
      rw [Array.getElem?_eq_getElem h2] at this
      exact (Option.some.inj this).symm
  subst ea
  refine wpAny_pure (hQ s' (fun b o e => hm.heap b o (fun hb => ?_) (oth b o (fun q => ?_) (kk b o (up b o e)))) hm.gens hm.os hm.drawn)
  · rcases List.mem_cons.mp hb with rfl | hb
    · exact Nat.lt_irrefl _ (Heap.lt_size e)
    · rw [List.mem_singleton.mp hb] at e
      have := up _ _ e
      rw [show (s.heap.push { cls := .type "list", data := .seq ([] : List Value).toArray }).get? Ia = none from hfresh] at this; cases this
  · exact Nat.lt_irrefl _ (q ▸ Heap.lt_size e)
theorem call_tuple_own {items : Array Value} {Q : Value → Shared → Prop} (hh : A.handled = none) (X : K.In s.heap) (hx : s.heap.get? x = some ox) (I : ∀ h' : Heap, (∀ b o, s.heap.get? b = some o → h'.get? b = some o) → W.InstAt h' x ox C od)
    (e : findIn K (.ref C) (Str.ofString "__iter__") = some (some (.ref f))) (hf : isFn K (.ref f) = true) (e1 : findIn K (.ref C) (Str.ofString "__len__") = some none) (e2 : findIn K (.ref C) (Str.ofString "__length_hint__") = some none) (hn : items.size ≤ sizeLine)
    (h : ∀ s₁ : Shared, (∀ b o, s.heap.get? b = some o → s₁.heap.get? b = some o) → s₁.gens = s.gens → s₁.os = s.os → s₁.drawn = s.drawn → codeAny (model prog w) A.in1.in1.in1 (.call (.ref f) ⟨[.ref x], []⟩) (Ret s₁ fun v h' => ∃ I T, v = .ref I ∧ IsTupIter h' I T 0 ∧ IsTup h' T items ∧ I ≠ T ∧ s₁.heap.get? I = none) s₁)
    (hQ : ∀ s' : Shared, (∀ b o, s.heap.get? b = some o → s'.heap.get? b = some o) → s'.gens = s.gens → s'.os = s.os → s'.drawn = s.drawn → Q (.ref s'.heap.objs.size) { s' with heap := s'.heap.push { cls := .type "tuple", data := .seq items } }) :
    wpAny (model prog w) A (call (.type "tuple") [.ref x]) Q E s := by
  refine callType_codes (Q₁ := fun obj s₁ => s₁.TypeIs obj "tuple" ∧ Q obj s₁) F.called_tuple (F.typeCall_tuple_1 _) F.entry_object_init ?_ fun obj s₁ h₁ =>
    ⟨h₁.1, F.args_object_init_2 obj _, object_init_meets F.called_tuple.init.lookup F.called_tuple.made (by decide) prog w A.in1 _ s₁ ⟨h₁.1, rfl, h₁.2⟩⟩
  refine codeAny_of_tree ?_
  show wpAny _ A.in1.in1 (do checkBuiltinCall "tuple.__new__" ⟨[.type "tuple", .ref x], []⟩; again (.builtin "tuple.__new__" ⟨[.type "tuple", .ref x], []⟩)) _ _ s
  refine wpAny_bind (wpAny_of_eq (F.newCall_tuple_1 _) (wpAny_pure ⟨plainId_quiet F.plain_tuple_new _, codeAny_builtin F.entry_tuple_new ?_⟩))
  rw [Around.under_plainId F.plain_tuple_new _]
  have hsub := sub_tuple_self
  have hinit := init_tuple_lookup
  have hmh := madeHere_tuple
  have hn1 : (Value.ref C == Value.type "tuple") = false := by simp
  have ty : ∀ {Q' : Value → Shared → Prop} {E' : Value → Shared → Prop} {A' : Around}, Q' (.ref C) s → wpAny (model prog w) A' (typeOf (.ref x)) Q' E' s := fun hq => (I _ (fun _ _ e => e)).type.here hq
  wp_walk using ty, collect_own (A := A.in1.in1) (by exact hh) X hx I e hf e1 e2 hn h
  intro s' hk hg ho hdr
  show wpAny _ _ (Builtin.Tuple.tupleExact items.toList.toArray >>= fun v => ret v) _ _ _
  unfold Builtin.Tuple.tupleExact
  refine wpAny_bind (wpAny_newObj_type ?_ (by show items.toList.toArray.size ≤ sizeLine; simp only [Array.toArray_toList]; exact hn))
  refine wpAny_pure ?_
  have e : items.toList.toArray = items := by simp
  rw [e]
  exact ⟨⟨_, Heap.get?_push_size _ rfl, rfl⟩, hQ s' hk hg ho hdr⟩
end
end Mine
end
section
set_option maxRecDepth 100000
local macro_rules | `(tactic| k_steps) => `(tactic| ((try dsimp only); repeat' (first | ((fail_if_success (with_reducible show PySem.wpAny _ _ (PySem.pyIter (PySem.Value.ref _)) _ _ _)); (fail_if_success (with_reducible show PySem.wpAny _ _ ((PySem.call (PySem.Value.ref _) _ _)) _ _ _)); (fail_if_success (with_reducible show PySem.wpAny _ _ ((PySem.call (PySem.Value.type "tuple") _ _)) _ _ _)); (fail_if_success (with_reducible show PySem.wpAny _ _ ((PySem.call (PySem.Value.type "str") _ _)) _ _ _)); (fail_if_success (with_reducible show PySem.wpAny _ _ ((PySem.noteFrame _ _)) _ _ _)); (fail_if_success (with_reducible show PySem.wpAny _ _ ((PySem.call (PySem.Value.builtin "str.join") _ _)) _ _ _)); (fail_if_success (with_reducible show PySem.wpAny _ _ ((PySem.compareOp _ (PySem.Value.ref _) (PySem.Value.ref _))) _ _ _)); (fail_if_success (with_reducible show PySem.wpAny _ _ ((PySem.eval (PySem.Expr.ListComp _ _ _ _) _)) _ _ _)); (fail_if_success (with_reducible show PySem.wpAny _ _ ((PySem.getAttrSem (PySem.Value.ref _) _)) _ _ _)); (fail_if_success (with_reducible show PySem.wpAny _ _ (PySem.exec (PySem.Stmt.While _ _ _ _) _) _ _ _)); first | (with_reducible refine PySem.wpAny_execs_cons ?_) | ((try dsimp only); walk1)) | fail "no step")))
local macro_rules | `(tactic| tb_rel) => `(tactic| ((try dsimp only); repeat' (first | ((fail_if_success (with_reducible show PySem.wpAny _ _ (PySem.exec (PySem.Stmt.If _ _ _ _) _) _ _ _)); (fail_if_success (with_reducible show PySem.wpAny _ _ (PySem.pyIter (PySem.Value.ref _)) _ _ _)); (fail_if_success (with_reducible show PySem.wpAny _ _ ((PySem.call (PySem.Value.ref _) _ _)) _ _ _)); (fail_if_success (with_reducible show PySem.wpAny _ _ ((PySem.call (PySem.Value.type "tuple") _ _)) _ _ _)); (fail_if_success (with_reducible show PySem.wpAny _ _ ((PySem.call (PySem.Value.type "str") _ _)) _ _ _)); (fail_if_success (with_reducible show PySem.wpAny _ _ ((PySem.noteFrame _ _)) _ _ _)); (fail_if_success (with_reducible show PySem.wpAny _ _ ((PySem.call (PySem.Value.builtin "str.join") _ _)) _ _ _)); (fail_if_success (with_reducible show PySem.wpAny _ _ ((PySem.compareOp _ (PySem.Value.ref _) (PySem.Value.ref _))) _ _ _)); (fail_if_success (with_reducible show PySem.wpAny _ _ ((PySem.eval (PySem.Expr.ListComp _ _ _ _) _)) _ _ _)); (fail_if_success (with_reducible show PySem.wpAny _ _ ((PySem.getAttrSem (PySem.Value.ref _) _)) _ _ _)); (fail_if_success (with_reducible show PySem.wpAny _ _ (PySem.exec (PySem.Stmt.While _ _ _ _) _) _ _ _)); first | (with_reducible refine PySem.wpAny_execs_cons ?_) | ((try dsimp only); walk1)) | fail "no step")))
local macro_rules | `(tactic| k_handed) => `(tactic| assumption)
namespace Mine
open PySem PySem.W PyProof.Rows PySem.Calls
local macro_rules | `(tactic| tb_start) => `(tactic| (have X := Ctx.K (by assumption); revert X; delta PR; k_fill; intro X; refine' enter (by assumption) (by k_is) (by k_is) (Nat.lt_trans (by assumption) (by decide)) ?hb (locs ?hl) ?_ rfl rfl rfl (by decide)))
variable {w : World} {loose : List Str} {mg mb : Str → Option Value} {mean : ExcName → Option Value} {A : Around} {s : Shared} {E : Value → Shared → Prop}

local macro_rules | `(tactic| walk_at "callWith ref") => `(tactic| (refine' callWith_MW ?k1 ?k2 ?k3 ?k4 ?k5 ?_; (case k1 => k_asm); (case k2 => k_asm); (case k3 => k_mem); (case k4 => k_is); (case k5 => exact rfl)))
local macro_rules | `(tactic| ktr_unf) => `(tactic| ((try dsimp only); repeat' (first | ((fail_if_success (with_reducible show PySem.wpAny _ _ (PySem.eval (PySem.Expr.Name _ _) _) _ _ _)); (fail_if_success (with_reducible show PySem.wpAny _ _ (PySem.call _ _ _) _ _ _)); ((try dsimp only); walk1)) | fail "no step")))

/-- a call that gives back a value, grows the tables, and may turn the frames above -/
def RetK (fs : List Addr) (s : Shared) (P : Value → Prop) (r : Result) (s' : Shared) : Prop :=
  ∃ v h' tk gs g', r = .ok (.ret v) ∧ s' = { s with heap := h', toks := tk, gens := gs } ∧ AllBare gs ∧ P v ∧ KtsTurn fs (gnd s.heap) g' ∧ (∀ b o, g'.get? b = some o → h'.get? b = some o) ∧ TabP h' 335 ∧ TabP h' 392
theorem fr_gndT {g h : Heap} {L : Addr} {m : Str → Option Value} (F : Fr g L h m) (n1 : (335 : Addr) ≠ L) (n2 : (392 : Addr) ≠ L) (z1 : g.get? 335 = none) (z2 : g.get? 392 = none) : Fr g L (gnd h) m :=
  ⟨F.ns.at' fun o e => le_gnd e (Ne.symm n1) (Ne.symm n2), fun b o e => le_gnd (F.keep b o e) (fun q => by rw [q, z1] at e; cases e) (fun q => by rw [q, z2] at e; cases e), F.above⟩
theorem callRMT {prog : Program} {A : Around} {E : Value → Shared → Prop} {base : Heap} {outer : List Env} {h₀ : Heap} {L : Addr} {m : Str → Option Value} {news : List (Addr × Obj)} {Q : Value → Shared → Prop} {q f : Addr} {x : Value} {c : Bool} {pos : List Value} {kw : List (Str × Value)} {P : Value → Heap → Prop} (F : Fr h₀ L s.heap m) (N : News h₀ L s.heap news)
    (hm : (q, methodObj (.ref f) x) ∈ news) (h : codeAny (model prog w) A (.call (.ref f) ⟨x :: pos, kw⟩) (MayT c base outer s P) s)
    (he : c = true → ∀ e t vs h' tk gs q1 q2, AllBare gs → TriplesOk q1.toList → TriplesOk q2.toList → RaisedS base (gnd s.heap) outer e (.type "ValueError") t vs [(335, tabObj q1), (392, tabObj q2)] h' → (gnd s.heap).UpToSlots h' → E (.ref e) { s with heap := h', toks := tk, gens := gs })
    (k : c = false → ∀ v h' tk gs, AllBare gs → P v h' → (∀ b o, b ∉ [335, 392] → s.heap.get? b = some o → h'.get? b = some o) → (∀ b ∈ [335, 392], TabP h' b) → Q v { s with heap := h', toks := tk, gens := gs }) : wpAny (model prog w) A (call (.ref q) pos kw) Q E s := by
  refine wpAny_call (codeAny_mono (ks_codeAny_call_bound (N _ hm).1 h) fun r s' hr => ?_)
  unfold MayT at hr
  cases hc : c with
  | true =>
    rw [hc, if_pos rfl] at hr
    obtain ⟨e, t, vs, h', tk, gs, q1, q2, rfl, rfl, gg, R, U, t1, t2⟩ := hr
    exact he hc e t vs h' tk gs q1 q2 gg t1 t2 R U
  | false =>
    rw [hc, if_neg (by decide)] at hr
    obtain ⟨v, h', tk, gs, rfl, rfl, gg, p, kk, tt⟩ := hr
    exact k hc v h' tk gs gg p kk tt
set_option maxHeartbeats 4000000 in
theorem case_bad {base : Heap} {outer : List Env} (G : Gd w loose mg mb mean A base outer s) (CB : Ctx w loose mg mb mean base) (KD : KtsDicts (outer.filterMap (·.frame)) (gnd s.heap)) (hd : A.depth < 430) (hh : A.handled = none) (hu : A.units < 300) {x : Str} {tt : Tok}
    (hx : x.length ≤ 150) (hp : Plain x) (hbad : badC (tx x) = true) :
    codeAny (model PR w) A (.call (.ref 518) ⟨[.str x tt], []⟩) (RetK (outer.filterMap (·.frame)) s (fun v => v = .bool true)) s := by
  have C0 := G.C.keeps gnd_le
  obtain ⟨q1, u1, tr1⟩ := G.t1
  obtain ⟨q2, u2, tr2⟩ := G.t2
  have b1 := root_none G.B (.inl rfl)
  have b2 := root_none G.B (.inr rfl)
  (have X := C0.K; revert X; delta PR; k_fill; intro X; refine' enter C0 (by k_is) (by k_is) (Nat.lt_trans hd (by decide)) ?hb (locs ?hl) ?_ rfl rfl rfl (by decide))
  case hb => exact BindsTo.of_eq (binds := [("text", .str x tt)]) rfl
  case hl => rfl
  intro L h₁ tk hL htk F C'
  obtain ⟨F2, N2⟩ := to_gnd F (News.nil (L := L)) u1 u2
  clear F C' X C0
  have C := G.C
  have X := C.K
  revert X; k_fill; intro X
  have T := C.T
  have BL := G.B
  simp only [List.nil_append] at N2
  have n1 : (335 : Addr) ≠ L := (N2 _ (.head _)).2.1
  have n2 : (392 : Addr) ≠ L := (N2 _ (.tail _ (.head _))).2.1
  k_steps
  refine callK (due_spec (s := { heap := h₁, gens := s.gens, drawn := s.drawn, toks := _, os := s.os }) (C.keeps F2.keep) (by simp only [depth_deeper]; omega) (by exact hh) (by rw [units_deeper]; omega) (Nat.le_trans hx (by decide)) hp) ?_
  rintro v h2 tk2 D kk
  have F3 := F2.keeps kk
  have N3 := News.keeps N2 kk
  have hp8 : ∀ c ∈ tx x, c < 128 := fun c hc => (hp c hc).1
  unfold Due at D
  rw [hbad, if_pos rfl] at D
  subst D
  clear F2 N2 kk
  k_steps
  rename Fr _ _ _ _ => F4
  rename News _ _ _ _ => N4
  have FG := fr_gndT F4 n1 n2 gnd_none1 gnd_none2
  with_unfolding_all show wpAny _ _ (call (.ref _) [.str x tt] (kwOf true)) _ _ _
  refine callRMT (kw := kwOf true) F4 N4 (.head _) (coerce_spec (s := { heap := _, gens := s.gens, drawn := s.drawn, toks := _, os := s.os }) (b := true) ⟨C.keeps FG.keep, BL.push FG rfl, ⟨q1, (N4 _ (.tail _ (.head _))).1, tr1⟩, ⟨q2, (N4 _ (.tail _ (.tail _ (.head _)))).1, tr2⟩, G.g⟩ (by simp only [depth_deeper]; omega) (by exact hh) (Nat.le_trans hx (by decide)) hp8) ?_ ?_
  case refine_2 => intro hc; rw [hbad] at hc; cases hc
  intro _ e t vs h5 tk5 gs5 q3 q4 gg tr3 tr4 R U
  k_steps

  refine caught_S0 (T' := "ValueError") R FG BL U CB.K CB.T KD KtsTurn.refl (by first | rfl | k_is) PyProof.Rows.Boot.«ValueError» (by decide) PySem.F.isExc_ValueError PySem.F.notTuple_ValueError (by kts_sub) ?_
  intro h6 g6 n6 T6 F6 _ _ N6 B6 X6 P6 D6
  clear F4 N4 FG R U X T C
  have C := Ctx.mk X6 P6
  have X := C.K
  revert X; k_fill; intro X
  have T := C.T
  k_steps
  rename Fr _ _ _ _ => F4
  rename News _ _ _ _ => N4
  have z1 : g6.get? 335 = none := T6.none_ _ gnd_none1
  have z2 : g6.get? 392 = none := T6.none_ _ gnd_none2
  have FG := fr_gndT F4 n1 n2 z1 z2
  with_unfolding_all show wpAny _ _ (call (.ref _) [.str x tt] (kwOf false)) _ _ _
  refine callRMT (kw := kwOf false) F4 N4 (.head _) (coerce_spec (s := { heap := _, gens := gs5, drawn := s.drawn, toks := _, os := s.os }) (b := false) ⟨C.keeps FG.keep, B6.push FG rfl, ⟨q3, (N4 _ (.tail _ (.head _))).1, tr3⟩, ⟨q4, (N4 _ (.tail _ (.tail _ (.head _)))).1, tr4⟩, gg⟩ (by simp only [depth_deeper]; omega) (by exact hh) (Nat.le_trans hx (by decide)) hp8) ?_ ?_
  case refine_2 => intro hc; rw [hbad] at hc; cases hc
  intro _ e9 t9 vs9 h9 tk9 gs9 q5 q6 gg9 tr5 tr6 R U
  k_steps
  refine caught_S0 (T' := "ValueError") R FG B6 U CB.K CB.T D6 T6 (by first | rfl | k_is) PyProof.Rows.Boot.«ValueError» (by decide) PySem.F.isExc_ValueError PySem.F.notTuple_ValueError (by kts_sub) ?_
  clear F4 N4 FG R U X T C
  intro h7 g7 n7 T7 F7 _ _ N7 B7 X7 P7 D7
  have C := Ctx.mk X7 P7
  have X := C.K
  revert X; k_fill; intro X
  have T := C.T
  k_steps
  rename Fr _ _ _ _ => F8
  rename News _ _ _ _ => N8
  exact ⟨_, _, _, gs9, g7, rfl, rfl, gg9, rfl, T7, F8.keep, ⟨q5, (N8 _ (.head _)).1, tr5⟩, ⟨q6, (N8 _ (.tail _ (.head _))).1, tr6⟩⟩
end Mine
end
section
set_option maxRecDepth 100000
local macro_rules | `(tactic| k_steps) => `(tactic| ((try dsimp only); repeat' (first | ((fail_if_success (with_reducible show PySem.wpAny _ _ (PySem.pyIter (PySem.Value.ref _)) _ _ _)); (fail_if_success (with_reducible show PySem.wpAny _ _ (PySem.exec (PySem.Stmt.While _ _ _ _) _) _ _ _)); first | (with_reducible refine PySem.wpAny_execs_cons ?_) | ((try dsimp only); walk1)) | fail "no step")))
local macro_rules | `(tactic| tb_rel) => `(tactic| ((try dsimp only); repeat' (first | ((fail_if_success (with_reducible show PySem.wpAny _ _ (PySem.exec (PySem.Stmt.If _ _ _ _) _) _ _ _)); (fail_if_success (with_reducible show PySem.wpAny _ _ (PySem.pyIter (PySem.Value.ref _)) _ _ _)); (fail_if_success (with_reducible show PySem.wpAny _ _ (PySem.exec (PySem.Stmt.While _ _ _ _) _) _ _ _)); first | (with_reducible refine PySem.wpAny_execs_cons ?_) | ((try dsimp only); walk1)) | fail "no step")))
local macro_rules | `(tactic| k_handed) => `(tactic| assumption)
namespace Mine
open PySem PySem.W PyProof.Rows PySem.Calls
local macro_rules | `(tactic| tb_start) => `(tactic| (have X := Ctx.K (by assumption); revert X; delta PR; k_fill; intro X; refine' enter (by assumption) (by k_is) (by k_is) (Nat.lt_trans (by assumption) (by decide)) ?hb (locs ?hl) ?_ rfl rfl rfl (by decide)))
variable {w : World} {loose : List Str} {mg mb : Str → Option Value} {mean : ExcName → Option Value} {A : Around} {s : Shared} {E : Value → Shared → Prop}
theorem call_tuple_ver {g : Heap} {L a dx : Addr} {m : Str → Option Value} {news : List (Addr × Obj)} {Q : Value → Shared → Prop} {k : Nat} {t1 t2 t3 t4 t5 t6 t7 t8 : Tok} {v1 v2 v3 vp vb : Value} {c1 c2 : Addr} {b : Bool} (C : Ctx w loose mg mb mean g) (hh : A.handled = none) (hd : A.depth < 445) (F : Fr g L s.heap m) (N : News g L s.heap news)
    (ma : (a, instObj 457 dx) ∈ news) (md : (dx, dictOf [en w "major" t1 v1, en w "minor" t2 v2, en w "patch" t3 v3, en w "prerelease" t4 vp, en w "build" t5 vb, en w "partial" t6 (.bool b), en w "_cmp_precedence_key" t7 (.ref c1), en w "_sort_precedence_key" t8 (.ref c2)] k) ∈ news)
    (w1 : handedIn v1 = true) (w2 : handedIn v2 = true) (w3 : handedIn v3 = true) (wp : handedIn vp = true) (wb : handedIn vb = true)
    (h : ∀ T h' tk, Fr g L h' m → News g L h' ((T, { cls := .type "tuple", data := .seq #[v1, v2, v3, vp, vb] }) :: news) → Q (.ref T) { s with heap := h', toks := tk }) : wpAny (model PR w) A (call (.type "tuple") [.ref a]) Q E s := by
  have X := (C.keeps F.keep).K
  revert X; delta PR; k_fill; intro X
  refine call_tuple_own (f := 382) (od := some _) hh X (N _ ma).1 (fun h' kk => ⟨kk _ _ (N _ ma).1, rfl, rfl, kk _ _ (N _ md).1⟩) (by k_is) (by k_is) (by k_is) (by k_is) (by show 5 ≤ sizeLine; decide) (fun s₁ kk _ _ _ => iter_spec (a := a) (dx := dx) (k := k) (t1 := t1) (t2 := t2) (t3 := t3) (t4 := t4) (t5 := t5) (t6 := t6) (t7 := t7) (t8 := t8) (c1 := c1) (c2 := c2) (b := b) C (fun b o e => kk b o (F.keep b o e)) (by simpa using (Nat.lt_trans hd (by decide))) (by exact hh) (fun p hp => ?_) w1 w2 w3 wp wb) ?_
  · rcases List.mem_cons.mp hp with rfl | hp
    · exact ⟨kk _ _ (N _ ma).1, (N _ ma).2.2⟩
    · rw [List.mem_singleton.mp hp]; exact ⟨kk _ _ (N _ md).1, (N _ md).2.2⟩
  · intro s' kk hg ho hdr
    have F' := (F.keeps kk).push { cls := .type "tuple", data := .seq #[v1, v2, v3, vp, vb] }
    have N' := News.push (F.keeps kk) (News.keeps N kk) { cls := .type "tuple", data := .seq #[v1, v2, v3, vp, vb] } rfl
    have := h _ _ s'.toks F' N'
    obtain ⟨hp, gs, dr, tk, os⟩ := s'
    obtain rfl := hg
    obtain rfl := ho
    obtain rfl := hdr
    exact this
theorem opt_eq {v v' : Value} {D : Option (List Nat)} (h : OptI v D) (h' : OptI v' D) : SeqAt.EqAt A s v v' true := by
  cases D with
  | none => obtain rfl := h; obtain rfl := h'; exact SeqAt.EqAt.same _
  | some D =>
    obtain ⟨t, rfl⟩ := h
    obtain ⟨u, rfl⟩ := h'
    have := SeqAt.EqAt.int_int (A := A) (s := s) (numL D) t (numL D) u
    rwa [beq_self_eq_true] at this
theorem tail_eq {h : Heap} {v v' : Value} {o o' : Option (List (Str × Tok))} (x : TailV s.heap v o) (x' : TailV s.heap v' o') (hu : A.units < cLine) (e : o.map (fun l => l.map fun q => tx q.1) = o'.map (fun l => l.map fun q => tx q.1)) : SeqAt.EqAt A s v v' true := by
  cases o with
  | none =>
    cases o' with
    | none => obtain rfl := x; obtain rfl := x'; exact SeqAt.EqAt.same _
    | some l => cases e
  | some l =>
    cases o' with
    | none => cases e
    | some l' =>
      obtain ⟨a, rfl, ta⟩ := x
      obtain ⟨b, rfl, tb⟩ := x'
      have e2 : l.map (fun q => tx q.1) = l'.map (fun q => tx q.1) := Option.some.inj e
      have hl : l.length = l'.length := by have := congrArg List.length e2; simpa using this
      by_cases hab : a = b
      · subst hab; exact SeqAt.EqAt.same _
      · have r := SeqAt.RcAt.tuples (A := A) (s := s) (e := fun _ => true) (isTuple_of ta) (isTuple_of tb) hu (fun j h1 h2 => by
          simp only [strValues, List.getElem_toArray, List.getElem_map]
          have h1' : j < l.length := by simpa [strValues] using h1
          have h2' : j < l'.length := by simpa [strValues] using h2
          have e3 : tx l[j].1 = tx l'[j].1 := by
            have := congrArg (fun z => z[j]?) e2
            simpa [h1', h2'] using this
          have := SeqAt.EqAt.str_str (A := A.in1) (s := s) l[j].1 l[j].2 l'[j].1 l'[j].2
          rw [show (l[j].1 == l'[j].1) = true by rw [eq_str, e3]; simp] at this
          exact this)
        have hs : (strValues l).toArray.size = (strValues l').toArray.size := by simp [strValues, hl]
        rw [show ((List.range (min (strValues l).toArray.size (strValues l').toArray.size)).all (fun _ => true) && (strValues l).toArray.size == (strValues l').toArray.size) = true by rw [hs]; simp] at r
        exact SeqAt.EqAt.of_refs hab r
theorem opt_norm {v : Value} {D : List Nat} (h : ∃ t, v = .int (numL D) t) : OptI v (some (normD D)) := by
  obtain ⟨t, rfl⟩ := h
  exact ⟨t, by rw [numL_norm]⟩
/-- the first three of the numbers and two more -/
theorem full_items {z : Value} {E : Option (List Nat)} (hz : OptI z E) {l : List Value} {rows rs : List (List Nat)} {D0 : List Nat} (pr : Paired (fun D v => ∃ t, v = .int (numL D) t) rows l) (h : rows.map normD = D0 :: rs) (hl : rs.length ≤ 2) :
    ∃ w0 w1 w2, (l ++ [z, z])[0]? = some w0 ∧ (l ++ [z, z])[1]? = some w1 ∧ (l ++ [z, z])[2]? = some w2 ∧ OptI w0 (some D0) ∧ OptI w1 (if 0 < rs.length then rs[0]? else E) ∧ OptI w2 (if 1 < rs.length then rs[1]? else E) := by
  cases pr with
  | nil => cases h
  | cons h1 p1 =>
    obtain ⟨e0, er⟩ := List.cons.inj h
    subst e0
    cases p1 with
    | nil =>
      subst er
      exact ⟨_, _, _, rfl, rfl, rfl, opt_norm h1, by simpa using hz, by simpa using hz⟩
    | cons h2 p2 =>
      cases p2 with
      | nil =>
        subst er
        exact ⟨_, _, _, rfl, rfl, rfl, opt_norm h1, by simpa using opt_norm h2, by simpa using hz⟩
      | cons h3 p3 =>
        subst er
        exact ⟨_, _, _, rfl, rfl, rfl, opt_norm h1, by simpa using opt_norm h2, by simpa using opt_norm h3⟩
theorem tup5_ne {A : Around} {T T' : Addr} {a0 a1 a2 a3 a4 b0 b1 b2 b3 b4 : Value} {Q : Value → Shared → Prop} (t : IsTup s.heap T #[a0, a1, a2, a3, a4]) (t' : IsTup s.heap T' #[b0, b1, b2, b3, b4]) (hu : A.units < cLine)
    (e0 : SeqAt.EqAt A.in1 s a0 b0 true) (e1 : SeqAt.EqAt A.in1 s a1 b1 true) (e2 : SeqAt.EqAt A.in1 s a2 b2 true) (e3 : SeqAt.EqAt A.in1 s a3 b3 true) (e4 : SeqAt.EqAt A.in1 s a4 b4 true) (h : Q (.bool false) s) : wpAny (model PR w) A (compareOp .NotEq (.ref T) (.ref T')) Q E s := by
  refine SeqAt.RcNeAt.tuples (e := fun _ => true) (isTuple_of t) (isTuple_of t') hu (fun j h1 h2 => ?_) _ _ _ _ h
  match j, h1 with
  | 0, _ => exact e0
  | 1, _ => exact e1
  | 2, _ => exact e2
  | 3, _ => exact e3
  | 4, _ => exact e4
theorem tup5_eq {A : Around} {T T' : Addr} {a0 a1 a2 a3 a4 b0 b1 b2 b3 b4 : Value} {Q : Value → Shared → Prop} (t : IsTup s.heap T #[a0, a1, a2, a3, a4]) (t' : IsTup s.heap T' #[b0, b1, b2, b3, b4]) (hu : A.units < cLine)
    (e0 : SeqAt.EqAt A.in1 s a0 b0 true) (e1 : SeqAt.EqAt A.in1 s a1 b1 true) (e2 : SeqAt.EqAt A.in1 s a2 b2 true) (e3 : SeqAt.EqAt A.in1 s a3 b3 true) (e4 : SeqAt.EqAt A.in1 s a4 b4 true) (h : Q (.bool true) s) : wpAny (model PR w) A (compareOp .Eq (.ref T) (.ref T')) Q E s := by
  refine SeqAt.RcAt.tuples (e := fun _ => true) (isTuple_of t) (isTuple_of t') hu (fun j h1 h2 => ?_) _ _ _ _ h
  match j, h1 with
  | 0, _ => exact e0
  | 1, _ => exact e1
  | 2, _ => exact e2
  | 3, _ => exact e3
  | 4, _ => exact e4
end Mine
end
section
set_option maxRecDepth 100000
namespace Mine
open PySem PySem.W PyProof.Rows PySem.Calls PySem.Builtin PySem.Builtin.Str
theorem norm_str {D : List Nat} (h : NumZ (normD D)) : tx (Str.ofString (toString (numL D : Int))) = normD D ∧ ((numL D : Int)).natAbs.log2 < 1920 := by
  have := num_str h
  rw [numL_norm] at this
  exact ⟨this.1, this.2.2⟩
theorem paired_mem {α β : Type} {R : α → β → Prop} : ∀ {l : List α} {m : List β}, Paired R l m → ∀ v ∈ m, ∃ D ∈ l, R D v
  | [], _, h, v, hv => by cases h; cases hv
  | a :: r, _, h, v, hv => by
    cases h with
    | cons h1 h2 =>
      rcases List.mem_cons.mp hv with rfl | hv
      · exact ⟨a, .head _, h1⟩
      · obtain ⟨D, hD, hr⟩ := paired_mem h2 v hv
        exact ⟨D, .tail _ hD, hr⟩
theorem told_paired : ∀ {rows : List (List Nat)} {vs ys : List Value}, Paired (fun D v => ∃ t, v = Value.int (numL D) t) rows vs → Paired (fun v r => ∃ n t u, v = Value.int n t ∧ r = Value.str (Str.ofString (toString n)) u) vs ys → (∀ D ∈ rows, NumZ (normD D)) →
    ∃ l : List (Str × Tok), ys = strValues l ∧ l.map (fun q => tx q.1) = rows.map normD
  | [], vs, ys, h, h2, _ => by
    cases h; cases h2
    exact ⟨[], rfl, rfl⟩
  | D :: r, vs, ys, h, h2, hz => by
    cases h with
    | cons h1 hr =>
      cases h2 with
      | cons g1 gr =>
        obtain ⟨l, rfl, hl⟩ := told_paired hr gr fun E hE => hz E (.tail _ hE)
        obtain ⟨t, rfl⟩ := h1
        obtain ⟨n, t', u, e, rfl⟩ := g1
        cases e
        refine ⟨(Str.ofString (toString (numL D)), u) :: l, rfl, ?_⟩
        rw [List.map_cons, List.map_cons, hl]
        congr 1
        exact (norm_str (hz D (.head _))).1
theorem ver_128 {rows : List (List Nat)} {p b : List Nat} (hr : ∀ D ∈ rows, isNum D) (hp : ∀ c ∈ p, isTail c = true) (hb : ∀ c ∈ b, isTail c = true) : ∀ c ∈ verL rows (optL p) (optL b), c < 128 := fun c hc => by
  have hj : ∀ {l : List (List Nat)}, (∀ D ∈ l, isNum D) → ∀ c ∈ joinL 46 l, c < 128 := fun {l} => by
    induction l with
    | nil => intro _ c hc; cases hc
    | cons a r ih =>
      intro h c hc
      have one : ∀ c ∈ a, c < 128 := fun c hc => by
        have := (h a (.head _)).2 c hc
        unfold isDig at this; simp at this; omega
      cases r with
      | nil => exact one c hc
      | cons b t =>
        rw [joinL] at hc
        rcases List.mem_append.mp hc with hc | hc
        · exact one c hc
        · rcases List.mem_cons.mp hc with rfl | hc
          · decide
          · exact ih (fun D hD => h D (.tail _ hD)) c hc
  unfold verL at hc
  rcases List.mem_append.mp hc with hc | hc
  · exact hj hr c hc
  · rw [tailL_opt] at hc
    rcases List.mem_append.mp hc with hc | hc
    · split at hc
      · cases hc
      · rcases List.mem_cons.mp hc with rfl | hc
        · decide
        · exact tail_128 hp c hc
    · split at hc
      · cases hc
      · rcases List.mem_cons.mp hc with rfl | hc
        · decide
        · exact tail_128 hb c hc
theorem told_128 {x : List Nat} (h : x.length ≤ 200) : ∀ c ∈ toldL x, c < 128 := ver_128 (fun D hD => (coNums_ok h D hD).1) (pre_tail x) (bld_tail x)
theorem norm_48 : normD [48] = [48] := rfl
theorem coNums_both {x : List Nat} {D0 D1 : List Nat} {rs rs' : List (List Nat)} (h : coNums true x = D0 :: rs) (h' : coNums false x = D1 :: rs') :
    rs.length ≤ 2 ∧ D1 = D0 ∧ rs'[0]? = (if 0 < rs.length then rs[0]? else some [48]) ∧ rs'[1]? = (if 1 < rs.length then rs[1]? else some [48]) := by
  have hl : rs.length ≤ 2 := by
    have := (coNums_len (b := true) (x := x)).1
    rw [h, List.length_cons] at this; omega
  have e : coNums false x = coNums true x ++ List.replicate (3 - (openL 3 x).1.length) [48] := by
    show ((openL 3 x).1 ++ List.replicate (3 - (openL 3 x).1.length) [48]).map normD = (openL 3 x).1.map normD ++ _
    rw [List.map_append, List.map_replicate, norm_48]
  have e2 : (openL 3 x).1.length = (D0 :: rs).length := by rw [← h, coNums_true, List.length_map]
  rw [h', h, e2] at e
  obtain ⟨e3, e4⟩ := List.cons.inj e
  refine ⟨hl, e3, ?_⟩
  match rs, hl with
  | [], _ => subst e4; exact ⟨rfl, rfl⟩
  | [a], _ => subst e4; exact ⟨rfl, rfl⟩
  | [a, b], _ => subst e4; exact ⟨rfl, rfl⟩
theorem told_whole {x : List Nat} : toldL x = joinL 46 (coNums true x) ++ ((if (preL x).isEmpty then [] else 45 :: preL x) ++ (if (bldL x).isEmpty then [] else 43 :: bldL x)) := by
  unfold toldL verL
  rw [tailL_opt]
theorem told_good {x : List Nat} (hne : (openL 3 x).1 ≠ []) (h : badC x = false) : badC (toldL x) = false := by
  rw [told_bad hne, ← bad_eq hne]; exact h
end Mine
end
section
set_option maxRecDepth 100000
namespace Mine
open PySem PySem.W PyProof.Rows PySem.Calls PySem.Builtin PySem.Builtin.Str
theorem full_items2 {z z' : Value} {E : Option (List Nat)} (hz : OptI z E) (hz' : OptI z' E) {l : List Value} {rows rs : List (List Nat)} {D0 : List Nat} (pr : Paired (fun D v => ∃ t, v = .int (numL D) t) rows l) (h : rows.map normD = D0 :: rs) (hl : rs.length ≤ 2) :
    ∃ w0 w1 w2, (l ++ [z, z'])[0]? = some w0 ∧ (l ++ [z, z'])[1]? = some w1 ∧ (l ++ [z, z'])[2]? = some w2 ∧ OptI w0 (some D0) ∧ OptI w1 (if 0 < rs.length then rs[0]? else E) ∧ OptI w2 (if 1 < rs.length then rs[1]? else E) := by
  cases pr with
  | nil => cases h
  | cons h1 p1 =>
    obtain ⟨e0, er⟩ := List.cons.inj h
    subst e0
    cases p1 with
    | nil =>
      subst er
      exact ⟨_, _, _, rfl, rfl, rfl, opt_norm h1, by simpa using hz, by simpa using hz'⟩
    | cons h2 p2 =>
      cases p2 with
      | nil =>
        subst er
        exact ⟨_, _, _, rfl, rfl, rfl, opt_norm h1, by simpa using opt_norm h2, by simpa using hz⟩
      | cons h3 p3 =>
        subst er
        exact ⟨_, _, _, rfl, rfl, rfl, opt_norm h1, by simpa using opt_norm h2, by simpa using opt_norm h3⟩
/-- what «x or ()» gives of a tail -/
theorem or_pre {P Q : Option (List Nat)} {o : Option (List (Str × Tok))} (h : o.map (fun l => l.map fun q => tx q.1) = preOut true P Q) (hs : someL o = true) : o.map (fun l => l.map fun q => tx q.1) = preOut false P Q := by
  cases P with
  | some p => exact h
  | none =>
    unfold preOut at h
    dsimp only at h
    split at h
    · cases o with
      | none => cases hs
      | some l => cases h
    · cases o with
      | none => cases hs
      | some l =>
        have e : l.map (fun q => tx q.1) = [] := Option.some.inj h
        have : l = [] := by simpa using e
        subst this; cases hs
theorem or_bld {Q : Option (List Nat)} {o : Option (List (Str × Tok))} (h : o.map (fun l => l.map fun q => tx q.1) = bldOut true Q) (hs : someL o = true) : o.map (fun l => l.map fun q => tx q.1) = bldOut false Q := by
  cases Q with
  | some p => exact h
  | none =>
    cases o with
    | none => cases hs
    | some l => cases h
theorem some_split {o : Option (List (Str × Tok))} {p : List Nat} (h : o.map (fun l => l.map fun q => tx q.1) = some (splitL 46 p)) : someL o = true := by
  cases o with
  | none => cases h
  | some l =>
    have e : l.map (fun q => tx q.1) = splitL 46 p := Option.some.inj h
    cases l with
    | nil => exact absurd e.symm (splitL_ne 46 p)
    | cons a r => rfl
theorem no_pre {P Q : Option (List Nat)} {o : Option (List (Str × Tok))} (h : o.map (fun l => l.map fun q => tx q.1) = preOut true P Q) (hs : someL o = false) : some [] = preOut false P Q := by
  cases P with
  | some p => rw [some_split h] at hs; cases hs
  | none => rfl
theorem no_bld {Q : Option (List Nat)} {o : Option (List (Str × Tok))} (h : o.map (fun l => l.map fun q => tx q.1) = bldOut true Q) (hs : someL o = false) : some [] = bldOut false Q := by
  cases Q with
  | some p => rw [some_split h] at hs; cases hs
  | none => rfl
/-- the tails have few parts -/
theorem pre_few {P Q : Option (List Nat)} {o : Option (List (Str × Tok))} {b : Bool} (h : o.map (fun l => l.map fun q => tx q.1) = preOut b P Q) (hP : ∀ p, P = some p → p.length ≤ 250) : ∀ l, o = some l → l.length ≤ 400 := fun l e => by
  subst e
  cases P with
  | some p => exact (tail_sizes (Option.some.inj h) (hP p rfl)).1
  | none =>
    unfold preOut at h
    dsimp only at h
    split at h
    · cases h
    · have e : l.map (fun q => tx q.1) = [] := Option.some.inj h
      have : l = [] := by simpa using e
      subst this; exact Nat.zero_le _
theorem bld_few {Q : Option (List Nat)} {o : Option (List (Str × Tok))} {b : Bool} (h : o.map (fun l => l.map fun q => tx q.1) = bldOut b Q) (hQ : ∀ p, Q = some p → p.length ≤ 250) : ∀ l, o = some l → l.length ≤ 400 := fun l e => by
  subst e
  cases Q with
  | some p => exact (tail_sizes (Option.some.inj h) (hQ p rfl)).1
  | none =>
    unfold bldOut at h
    dsimp only at h
    split at h
    · cases h
    · have e : l.map (fun q => tx q.1) = [] := Option.some.inj h
      have : l = [] := by simpa using e
      subst this; exact Nat.zero_le _
end Mine
end
section
set_option maxRecDepth 100000
namespace Mine
open PySem PySem.W PyProof.Rows PySem.Calls
/-- a written function's parts -/
def FnAt (K : Frag) (f : Addr) (qual : Str) (scope : Scope) (body : List Stmt) (cdv : Value) : Prop :=
  ∃ oc od name params dV kV doc pm an ct osl, K.lookup f = some ⟨oc, od, .func (fnOf name qual params body scope dV kV doc pm an cdv ct), osl⟩
theorem FnAt.intro {K : Frag} {f : Addr} {name qual : Str} {params : Arguments} {scope : Scope} {body : List Stmt} {dV kV doc pm cdv ct oc : Value} {an od : Option Addr} {osl : Array (Option Value)}
    (h : K.lookup f = some ⟨oc, od, .func (fnOf name qual params body scope dV kV doc pm an cdv ct), osl⟩) : FnAt K f qual scope body cdv := ⟨_, _, _, _, _, _, _, _, _, _, _, h⟩
theorem FnAt.uniq {K : Frag} {f : Addr} {q q' : Str} {s s' : Scope} {b b' : List Stmt} {c c' : Value} (h : FnAt K f q s b c) (h' : FnAt K f q' s' b' c') : q = q' ∧ s = s' ∧ b = b' ∧ c = c' := by
  obtain ⟨_, _, _, _, _, _, _, _, _, _, _, e⟩ := h
  obtain ⟨_, _, _, _, _, _, _, _, _, _, _, e'⟩ := h'
  rw [e] at e'
  injection e' with e'
  injection e' with _ _ e' _
  injection e' with e'
  injection e' with _ e1 _ e2 e3 _ _ _ _ _ _ _ e4 _ _
  injection e2 with e2
  exact ⟨e1, e3, e2, e4⟩
/-- the data of one case -/
structure CD where
  (a dx ap bp a' dx' ap' bp' T1 lr at' ae : Addr)
  (oa ob oa' ob' oT oat oae : Obj)
  (kx kx' nlr : Nat)
  (v1 v2 v3 vp vb v1' v2' v3' vp' vb' vt ve : Value)
  (t1 t2 t3 t4 t5 t6 t7 t8 t1' t2' t3' t4' t5' t6' t7' t8' : Tok)
  (c1 c2 c1' c2' : Addr)
  (pre bld pre' bld' ot oe : Option (List (Str × Tok)))
  (D0 D0' : List Nat) (rs rs' : List (List Nat)) (items : Array Value) (p q : Str) (tp tq : Tok)
/-- its ledger -/
def CD.led (w : World) (D : CD) : List (Addr × Obj) :=
  [(D.ae, D.oae), (D.at', D.oat), (D.bp', D.ob'), (D.ap', D.oa'), (D.a', instObj 457 D.dx'),
   (D.dx', dictOf [en w "major" D.t1' D.v1', en w "minor" D.t2' D.v2', en w "patch" D.t3' D.v3', en w "prerelease" D.t4' D.vp', en w "build" D.t5' D.vb', en w "partial" D.t6' (.bool false), en w "_cmp_precedence_key" D.t7' (.ref D.c1'), en w "_sort_precedence_key" D.t8' (.ref D.c2')] D.kx'),
   (D.bp, D.ob), (D.ap, D.oa), (D.a, instObj 457 D.dx),
   (D.dx, dictOf [en w "major" D.t1 D.v1, en w "minor" D.t2 D.v2, en w "patch" D.t3 D.v3, en w "prerelease" D.t4 D.vp, en w "build" D.t5 D.vb, en w "partial" D.t6 (.bool true), en w "_cmp_precedence_key" D.t7 (.ref D.c1), en w "_sort_precedence_key" D.t8 (.ref D.c2)] D.kx),
   (D.T1, D.oT), (D.lr, W.listOf D.items D.nlr)]
/-- what is known of them -/
structure CF (x : Str) (D : CD) : Prop where
  hx : x.length ≤ 150
  hbad : badC (tx x) = false
  hne : (openL 3 (tx x)).1 ≠ []
  pr : Paired (fun D v => ∃ t, v = .int (numL D) t) (openL 3 (tx x)).1 D.items.toList
  hco : coNums true (tx x) = D.D0 :: D.rs
  hco' : coNums false (tx x) = D.D0' :: D.rs'
  o1 : OptI D.v1 (some D.D0)
  o2 : OptI D.v2 D.rs[0]?
  o3 : OptI D.v3 D.rs[1]?
  o1' : OptI D.v1' (some D.D0')
  o2' : OptI D.v2' D.rs'[0]?
  o3' : OptI D.v3' D.rs'[1]?
  epp : D.pre.map (fun l => l.map fun q => tx q.1) = preOut true (optL (preL (tx x))) (optL (bldL (tx x)))
  ebb : D.bld.map (fun l => l.map fun q => tx q.1) = bldOut true (optL (bldL (tx x)))
  epp' : D.pre'.map (fun l => l.map fun q => tx q.1) = preOut false (optL (preL (tx x))) (optL (bldL (tx x)))
  ebb' : D.bld'.map (fun l => l.map fun q => tx q.1) = bldOut false (optL (bldL (tx x)))
  gap : ∀ h' : Heap, h'.get? D.ap = some D.oa → TailV h' D.vp D.pre
  gbp : ∀ h' : Heap, h'.get? D.bp = some D.ob → TailV h' D.vb D.bld
  gap' : ∀ h' : Heap, h'.get? D.ap' = some D.oa' → TailV h' D.vp' D.pre'
  gbp' : ∀ h' : Heap, h'.get? D.bp' = some D.ob' → TailV h' D.vb' D.bld'
  ca : D.oa.cls ≠ .none
  cb : D.ob.cls ≠ .none
  ca' : D.oa'.cls ≠ .none
  cb' : D.ob'.cls ≠ .none
  cT' : D.oT.cls ≠ .none
  w4 : handedIn D.vp = true
  w5 : handedIn D.vb = true
  w4' : handedIn D.vp' = true
  w5' : handedIn D.vb' = true
  ep : tx D.p = preL (tx x)
  eq : tx D.q = bldL (tx x)
  hpl : D.p.length ≤ 150
  hql : D.q.length ≤ 150
  xt : ∀ h' : Heap, h'.get? D.at' = some D.oat → TailV h' D.vt D.ot
  wt : handedIn D.vt = true
  ct : D.oat.cls ≠ .none
  et : D.ot.map (fun l => l.map fun q => tx q.1) = preOut true (optL (preL (tx x))) (optL (bldL (tx x)))
  xe : ∀ h' : Heap, h'.get? D.ae = some D.oae → TailV h' D.ve D.oe
  we : handedIn D.ve = true
  ce : D.oae.cls ≠ .none
  ee : D.oe.map (fun l => l.map fun q => tx q.1) = bldOut true (optL (bldL (tx x)))
/-- the ground of one case -/
structure CG (w : World) (loose : List Str) (mg mb : Str → Option Value) (mean : ExcName → Option Value) (A : Around) (base g : Heap) (outer : List Env) (L : Addr) : Prop where
  C : Ctx w loose mg mb mean g
  BL : Below A base outer g
  n1 : (335 : Addr) ≠ L
  n2 : (392 : Addr) ≠ L
  z1 : g.get? 335 = none
  z2 : g.get? 392 = none
  hd : A.depth < 430
  hh : A.handled = none
  hu : A.units < 300
/-- the case's end -/
def CEnd (g : Heap) (d : Drawn) (o : OsState) (Q : Flow → Shared → Prop) : Prop := ∀ h' tk gs, AllBare gs → (∀ b o, g.get? b = some o → h'.get? b = some o) → TabP h' 335 → TabP h' 392 → Q (.ret (.bool true)) { heap := h', gens := gs, drawn := d, toks := tk, os := o }
theorem fr_tabs {g h h' : Heap} {L : Addr} {m : Str → Option Value} (F : Fr g L h m) (n1 : (335 : Addr) ≠ L) (n2 : (392 : Addr) ≠ L) (z1 : g.get? 335 = none) (z2 : g.get? 392 = none) (kk : ∀ b o, b ∉ [335, 392] → h.get? b = some o → h'.get? b = some o) : Fr g L h' m :=
  ⟨F.ns.at' fun o e => kk L o (by simp [Ne.symm n1, Ne.symm n2]) e, fun b o e => kk b o (by
    simp only [List.mem_cons, List.not_mem_nil, or_false, not_or]
    exact ⟨fun q => (by rw [q, z1] at e; cases e), fun q => (by rw [q, z2] at e; cases e)⟩) (F.keep b o e), F.above⟩
theorem news_tabs {g h h' : Heap} {L : Addr} {news extra : List (Addr × Obj)} {q1 q2 q3 q4 : Array Value} (N : News g L h news) (m1 : (335, tabObj q1) ∈ news) (m2 : (392, tabObj q2) ∈ news) (hs : ∀ p ∈ extra, p ∈ news ∧ p.2.cls ≠ .none)
    (kk : ∀ b o, b ∉ [335, 392] → h.get? b = some o → h'.get? b = some o) (e1 : h'.get? 335 = some (tabObj q3)) (e2 : h'.get? 392 = some (tabObj q4)) : News g L h' (extra ++ [(335, tabObj q3), (392, tabObj q4)]) := fun p hp => by
  rcases List.mem_append.mp hp with hp | hp
  · obtain ⟨hm, hc⟩ := hs p hp
    refine ⟨kk _ _ ?_ (N p hm).1, (N p hm).2⟩
    simp only [List.mem_cons, List.not_mem_nil, or_false, not_or]
    exact ⟨ne_tab (N p hm).1 (N _ m1).1 hc, ne_tab (N p hm).1 (N _ m2).1 hc⟩
  · rcases List.mem_cons.mp hp with rfl | hp
    · exact ⟨e1, (N _ m1).2⟩
    · rw [List.mem_singleton.mp hp]; exact ⟨e2, (N _ m2).2⟩
theorem more_fresh {g G h : Heap} {L a : Addr} {m : Str → Option Value} {news : List (Addr × Obj)} {o : Obj} (FG : Fr g L G m) (N : News g L h news) (e : h.get? a = some o) (f : G.get? a = none) : News g L h ((a, o) :: news) := fun p hp => by
  rcases List.mem_cons.mp hp with rfl | hp
  · refine ⟨e, fun q => ?_, none_down FG.keep f⟩
    obtain ⟨oL, _, _, e1, _⟩ := FG.ns
    rw [← show a = L from q, f] at e1; cases e1
  · exact N p hp
theorem tail_obj2 {h G : Heap} {v : Value} {o : Option (List (Str × Tok))} {d : Addr} {od : Obj} (x : TailV h v o) (e : h.get? d = some od) (f : G.get? d = none) (hc : od.cls ≠ .none) (fv : ∀ a, v = .ref a → G.get? a = none) :
    ∃ a ob, h.get? a = some ob ∧ ob.cls ≠ .none ∧ G.get? a = none ∧ ∀ h' : Heap, h'.get? a = some ob → TailV h' v o := by
  cases o with
  | none => exact ⟨d, od, e, hc, f, fun _ _ => x⟩
  | some l =>
    obtain ⟨a, rfl, ob, e1, e2, n, e3⟩ := x
    exact ⟨a, ob, e1, (by rw [e2]; intro q; cases q), fv a rfl, fun h' e => ⟨a, rfl, ob, e, e2, n, e3⟩⟩
theorem openL_rest_len (n : Nat) (l : List Nat) (h : (openL n l).1 ≠ []) : (openL n l).2.length ≤ l.length := by
  have := congrArg List.length (openL_join n l h)
  rw [List.length_append] at this
  omega
end Mine
end
section
set_option maxRecDepth 100000
local macro_rules | `(tactic| k_steps) => `(tactic| ((try dsimp only); repeat' (first | ((fail_if_success (with_reducible show PySem.wpAny _ _ (PySem.pyIter (PySem.Value.ref _)) _ _ _)); (fail_if_success (with_reducible show PySem.wpAny _ _ ((PySem.call (PySem.Value.ref _) _ _)) _ _ _)); (fail_if_success (with_reducible show PySem.wpAny _ _ ((PySem.call (PySem.Value.type "tuple") _ _)) _ _ _)); (fail_if_success (with_reducible show PySem.wpAny _ _ ((PySem.call (PySem.Value.type "str") _ _)) _ _ _)); (fail_if_success (with_reducible show PySem.wpAny _ _ ((PySem.noteFrame _ _)) _ _ _)); (fail_if_success (with_reducible show PySem.wpAny _ _ ((PySem.call (PySem.Value.builtin "str.join") _ _)) _ _ _)); (fail_if_success (with_reducible show PySem.wpAny _ _ ((PySem.compareOp _ (PySem.Value.ref _) (PySem.Value.ref _))) _ _ _)); (fail_if_success (with_reducible show PySem.wpAny _ _ ((PySem.eval (PySem.Expr.ListComp _ _ _ _) _)) _ _ _)); (fail_if_success (with_reducible show PySem.wpAny _ _ ((PyProof.Rows.subscriptTail _ _ (PySem.Value.ref _) _)) _ _ _)); (fail_if_success (with_reducible show PySem.wpAny _ _ ((PySem.execs (PySem.Stmt.Assign [PySem.Expr.Name _ _] (PySem.Expr.BinOp _ _ _ _) _ :: _) _)) _ _ _)); (fail_if_success (with_reducible show PySem.wpAny _ _ ((PySem.eval (PySem.Expr.BoolOp PySem.BoolOp.Or [PySem.Expr.Name _ _, PySem.Expr.Tuple _ _ _] _) _)) _ _ _)); (fail_if_success (with_reducible show PySem.wpAny _ _ (PySem.exec (PySem.Stmt.While _ _ _ _) _) _ _ _)); first | (with_reducible refine PySem.wpAny_execs_cons ?_) | ((try dsimp only); walk1)) | fail "no step")))
local macro_rules | `(tactic| tb_rel) => `(tactic| ((try dsimp only); repeat' (first | ((fail_if_success (with_reducible show PySem.wpAny _ _ (PySem.exec (PySem.Stmt.Assign [PySem.Expr.Name _ _] (PySem.Expr.IfExp _ _ _ _) _) _) _ _ _)); (fail_if_success (with_reducible show PySem.wpAny _ _ (PySem.pyIter (PySem.Value.ref _)) _ _ _)); (fail_if_success (with_reducible show PySem.wpAny _ _ ((PySem.call (PySem.Value.ref _) _ _)) _ _ _)); (fail_if_success (with_reducible show PySem.wpAny _ _ ((PySem.call (PySem.Value.type "tuple") _ _)) _ _ _)); (fail_if_success (with_reducible show PySem.wpAny _ _ ((PySem.call (PySem.Value.type "str") _ _)) _ _ _)); (fail_if_success (with_reducible show PySem.wpAny _ _ ((PySem.noteFrame _ _)) _ _ _)); (fail_if_success (with_reducible show PySem.wpAny _ _ ((PySem.call (PySem.Value.builtin "str.join") _ _)) _ _ _)); (fail_if_success (with_reducible show PySem.wpAny _ _ ((PySem.compareOp _ (PySem.Value.ref _) (PySem.Value.ref _))) _ _ _)); (fail_if_success (with_reducible show PySem.wpAny _ _ ((PySem.eval (PySem.Expr.ListComp _ _ _ _) _)) _ _ _)); (fail_if_success (with_reducible show PySem.wpAny _ _ ((PyProof.Rows.subscriptTail _ _ (PySem.Value.ref _) _)) _ _ _)); (fail_if_success (with_reducible show PySem.wpAny _ _ ((PySem.execs (PySem.Stmt.Assign [PySem.Expr.Name _ _] (PySem.Expr.BinOp _ _ _ _) _ :: _) _)) _ _ _)); (fail_if_success (with_reducible show PySem.wpAny _ _ ((PySem.eval (PySem.Expr.BoolOp PySem.BoolOp.Or [PySem.Expr.Name _ _, PySem.Expr.Tuple _ _ _] _) _)) _ _ _)); (fail_if_success (with_reducible show PySem.wpAny _ _ (PySem.exec (PySem.Stmt.While _ _ _ _) _) _ _ _)); first | (with_reducible refine PySem.wpAny_execs_cons ?_) | ((try dsimp only); walk1)) | fail "no step")))
local macro_rules | `(tactic| k_handed) => `(tactic| assumption)
namespace Mine
open PySem PySem.W PyProof.Rows PySem.Calls
local macro_rules | `(tactic| tb_start) => `(tactic| (have X := Ctx.K (by assumption); revert X; delta PR; k_fill; intro X; refine' enter (by assumption) (by k_is) (by k_is) (Nat.lt_trans (by assumption) (by decide)) ?hb (locs ?hl) ?_ rfl rfl rfl (by decide)))
variable {w : World} {loose : List Str} {mg mb : Str → Option Value} {mean : ExcName → Option Value} {A : Around} {s : Shared} {E : Value → Shared → Prop}

local macro_rules | `(tactic| walk_at "callWith ref") => `(tactic| (refine' callWith_MW ?k1 ?k2 ?k3 ?k4 ?k5 ?_; (case k1 => k_asm); (case k2 => k_asm); (case k3 => k_mem); (case k4 => k_is); (case k5 => exact rfl)))
local macro_rules | `(tactic| ktr_unf) => `(tactic| ((try dsimp only); repeat' (first | ((fail_if_success (with_reducible show PySem.wpAny _ _ (PySem.eval (PySem.Expr.Name _ _) _) _ _ _)); (fail_if_success (with_reducible show PySem.wpAny _ _ (PySem.call _ _ _) _ _ _)); ((try dsimp only); walk1)) | fail "no step")))
variable {base g : Heap} {outer : List Env} {L : Addr} {x : Str} {tt : Tok} {D : CD} {h : Heap} {gs : Array GenState} {d : Drawn} {o : OsState} {m : Str → Option Value} {q5 q6 : Array Value} {qual : Str} {scope : Scope} {body : List Stmt} {cdv : Value}
set_option maxHeartbeats 40000000 in
theorem case12 (fn : FnAt (KK w.params) 518 qual scope body cdv) (cg : CG w loose mg mb mean A base g outer L) (cf : CF x D) (F : Fr g L h m) (N : News g L h (D.led w ++ [(335, tabObj q5), (392, tabObj q6)])) (gg : AllBare gs) (tr5 : TriplesOk q5.toList) (tr6 : TriplesOk q6.toList) (l1 : m (Str.ofString "whole") = some (.ref D.a')) (l2 : m (Str.ofString "numbers") = some (.ref D.lr)) (l3 : m (Str.ofString "tails") = some D.vt) (l4 : m (Str.ofString "ends") = some D.ve) :
    ∀ (tk : Nat) (Q : Flow → Shared → Prop) (E : Value → Shared → Prop), CEnd g d o Q → wpAny (model PR w) (A.deeper (envOf qual scope L 518 cdv)) (execs (body.drop 12) (envOf qual scope L 518 cdv)) Q E { heap := h, gens := gs, drawn := d, toks := tk, os := o } := by
  have cf0 := cf
  have cg0 := cg
  obtain ⟨a, dx, ap, bp, a', dx', ap', bp', T1, lr, at', ae, oa, ob, oa', ob', oT, oat, oae, kx, kx', nlr, v1, v2, v3, vp, vb, v1', v2', v3', vp', vb', vt, ve, t1, t2, t3, t4, t5, t6, t7, t8, t1', t2', t3', t4', t5', t6', t7', t8', c1, c2, c1', c2', pre, bld, pre', bld', ot, oe, D0, D0', rs, rs', items, p, q, tp, tq⟩ := D
  obtain ⟨hx, hbad, hne, pr, hco, hco', o1, o2, o3, o1', o2', o3', epp, ebb, epp', ebb', gap, gbp, gap', gbp', ca, cb, ca', cb', cT', w4, w5, w4', w5', ep, eq, hpl, hql, xt, wt, ct, et, xe, we, ce, ee⟩ := cf
  obtain ⟨C, BL, n1, n2, z1, z2, hd, hh, hu⟩ := cg
  have N : News g L h [(ae, oae), (at', oat), (bp', ob'), (ap', oa'), (a', instObj 457 dx'), (dx', dictOf [en w "major" t1' v1', en w "minor" t2' v2', en w "patch" t3' v3', en w "prerelease" t4' vp', en w "build" t5' vb', en w "partial" t6' (.bool false), en w "_cmp_precedence_key" t7' (.ref c1'), en w "_sort_precedence_key" t8' (.ref c2')] kx'), (bp, ob), (ap, oa), (a, instObj 457 dx), (dx, dictOf [en w "major" t1 v1, en w "minor" t2 v2, en w "patch" t3 v3, en w "prerelease" t4 vp, en w "build" t5 vb, en w "partial" t6 (.bool true), en w "_cmp_precedence_key" t7 (.ref c1), en w "_sort_precedence_key" t8 (.ref c2)] kx), (T1, oT), (lr, W.listOf items nlr), (335, tabObj q5), (392, tabObj q6)] := N
  dsimp only at *
  have FI := explL F [(_, _), (_, _), (_, _), (_, _)] (by simp only [List.forall_mem_cons]; exact ⟨l1, l2, l3, l4, List.forall_mem_nil _⟩)
  clear F l1 l2 l3 l4
  intro tk Q E hEnd
  have X := C.K
  revert X; delta PR; k_fill; intro X
  obtain ⟨rfl, rfl, rfl, rfl⟩ := FnAt.uniq fn (FnAt.intro (by k_is))
  clear fn
  show wpAny (model PR w) _ _ _ _ _
  have T := C.T
  have hx2 : (tx x).length ≤ 200 := by rw [tx_len]; omega
  dsimp only [List.drop]
  refine wpAny_execs_cons ?_
  have huL : ∀ env, (A.deeper env).in1.units < cLine := fun env => by rw [PyProof.Rows.units_in1, units_deeper]; exact Nat.lt_trans (Nat.add_lt_add_right (Nat.add_lt_add_right hu 3) 1) (by decide)
  have huM : ∀ env, (A.deeper env).units < cLine := fun env => by rw [units_deeper]; exact Nat.lt_trans (Nat.add_lt_add_right hu 3) (by decide)
  obtain ⟨hrl, hD1, hr1, hr2⟩ := coNums_both hco hco'
  have hpl2 : ∀ p, optL (preL (tx x)) = some p → p.length ≤ 250 := fun p' e => by
    unfold optL at e; split at e
    · cases e
    · cases e; rw [← ep, tx_len]; omega
  have hql2 : ∀ p, optL (bldL (tx x)) = some p → p.length ≤ 250 := fun p' e => by
    unfold optL at e; split at e
    · cases e
    · cases e; rw [← eq, tx_len]; omega
  have w1z := opt_handed o1'
  have w2z := opt_handed o2'
  have w3z := opt_handed o3'
  have hil : items.toList.length ≤ 3 := by rw [← pr.length]; exact openL_len 3 (tx x)
  k_steps
  rename Fr _ _ _ _ => FQ
  rename News _ _ _ _ => NQ
  generalize Array.size _ = fl2 at FQ NQ ⊢
  refine call_tuple_ver C hh (by simp only [depth_deeper]; omega) FQ NQ (a := a') (dx := dx') (k := kx') (b := false) (by k_mem) (show (dx', dictOf [en w "major" t1' v1', en w "minor" t2' v2', en w "patch" t3' v3', en w "prerelease" t4' vp', en w "build" t5' vb', en w "partial" t6' (.bool false), en w "_cmp_precedence_key" t7' (.ref c1'), en w "_sort_precedence_key" t8' (.ref c2')] kx') ∈ _ by k_mem) w1z w2z w3z w4' w5' ?_
  intro TV4 hF tkF FR NR
  clear FQ NQ
  obtain ⟨i0, i1, i2, g0', g1', g2', og0', og1', og2'⟩ := full_items2 (z := Value.int 0 tk) (z' := Value.int 0 (tk + 1)) (E := some [48]) ⟨_, rfl⟩ ⟨_, rfl⟩ pr hco hrl
  have hg0' := opt_handed og0'
  have hg1' := opt_handed og1'
  have hg2' := opt_handed og2'
  k_steps
  refine pick_list (items := (items.toList ++ [Value.int 0 tk, Value.int 0 (tk + 1)]).toArray) ⟨_, (NR (fl2, { cls := .type "list", data := .seq (items.toList ++ [Value.int 0 tk, Value.int 0 (tk + 1)]).toArray }) (by k_mem)).1, rfl, 0, rfl⟩ (by decide) (by rw [List.size_toArray]; exact (List.getElem?_eq_some_iff.mp g0').1) (by rw [List.size_toArray, List.length_append]; simp only [List.length_cons, List.length_nil]; omega) fun v _ hv => ?_
  obtain rfl : v = i0 := by
    rw [List.getElem?_toArray] at hv
    exact Option.some.inj (hv.symm.trans g0')
  clear hv
  k_steps
  refine pick_list (items := (items.toList ++ [Value.int 0 tk, Value.int 0 (tk + 1)]).toArray) ⟨_, (NR (fl2, { cls := .type "list", data := .seq (items.toList ++ [Value.int 0 tk, Value.int 0 (tk + 1)]).toArray }) (by k_mem)).1, rfl, 0, rfl⟩ (by decide) (by rw [List.size_toArray]; exact (List.getElem?_eq_some_iff.mp g1').1) (by rw [List.size_toArray, List.length_append]; simp only [List.length_cons, List.length_nil]; omega) fun v _ hv => ?_
  obtain rfl : v = i1 := by
    rw [List.getElem?_toArray] at hv
    exact Option.some.inj (hv.symm.trans g1')
  clear hv
  k_steps
  refine pick_list (items := (items.toList ++ [Value.int 0 tk, Value.int 0 (tk + 1)]).toArray) ⟨_, (NR (fl2, { cls := .type "list", data := .seq (items.toList ++ [Value.int 0 tk, Value.int 0 (tk + 1)]).toArray }) (by k_mem)).1, rfl, 0, rfl⟩ (by decide) (by rw [List.size_toArray]; exact (List.getElem?_eq_some_iff.mp g2').1) (by rw [List.size_toArray, List.length_append]; simp only [List.length_cons, List.length_nil]; omega) fun v _ hv => ?_
  obtain rfl : v = i2 := by
    rw [List.getElem?_toArray] at hv
    exact Option.some.inj (hv.symm.trans g2')
  clear hv
  k_steps
  rename Fr _ _ _ _ => FS
  rename News _ _ _ _ => NS
  obtain ⟨mS, FT, k1, k2, k3⟩ : ∃ mS, Fr g L hF mS ∧ mS (Str.ofString "tails") = some vt ∧ mS (Str.ofString "ends") = some ve ∧ mS (Str.ofString "whole") = some (.ref a') := ⟨_, FS, rfl, rfl, rfl⟩
  have FU := explL FT [(_, _), (_, _), (_, _)] (by simp only [List.forall_mem_cons]; exact ⟨k1, k2, k3, List.forall_mem_nil _⟩)
  have NU : News g L hF [(TV4, ({ cls := .type "tuple", data := .seq #[v1', v2', v3', vp', vb'] } : Obj)), (ae, oae), (at', oat), (bp', ob'), (ap', oa'), (a', instObj 457 dx'), (dx', dictOf [en w "major" t1' v1', en w "minor" t2' v2', en w "patch" t3' v3', en w "prerelease" t4' vp', en w "build" t5' vb', en w "partial" t6' (.bool false), en w "_cmp_precedence_key" t7' (.ref c1'), en w "_sort_precedence_key" t8' (.ref c2')] kx'), (335, tabObj q5), (392, tabObj q6)] := fun p hp => NS p (SubL.mem (by k_subL) p hp)
  clear FS NS FT k1 k2 k3
  refine wpAny_mono (Q := fun v' s' => Hold (∃ rr at2 ob2 l h2 tk2, v' = .ref rr ∧ s' = { heap := h2, gens := gs, drawn := d, toks := tk2, os := o } ∧ Fr g L h2 (told [(Str.ofString "tails", vt), (Str.ofString "ends", ve), (Str.ofString "whole", .ref a')] mS) ∧ News g L h2 [(at2, ob2), (TV4, ({ cls := .type "tuple", data := .seq #[v1', v2', v3', vp', vb'] } : Obj)), (ae, oae), (at', oat), (bp', ob'), (ap', oa'), (a', instObj 457 dx'), (dx', dictOf [en w "major" t1' v1', en w "minor" t2' v2', en w "patch" t3' v3', en w "prerelease" t4' vp', en w "build" t5' vb', en w "partial" t6' (.bool false), en w "_cmp_precedence_key" t7' (.ref c1'), en w "_sort_precedence_key" t8' (.ref c2')] kx'), (335, tabObj q5), (392, tabObj q6)] ∧ (∀ h' : Heap, h'.get? at2 = some ob2 → TailV h' (.ref rr) (some l)) ∧ some (l.map fun q => tx q.1) = preOut false (optL (preL (tx x))) (optL (bldL (tx x))))) ?_ ?_ (fun _ _ e => e)
  · walk1
    k_steps
    refine truthy_tail (o := ot) (xt _ (NU (at', oat) (by k_mem)).1) (pre_few et hpl2) fun k1 => ?_
    cases h1 : someL ot with
    | true =>
      obtain ⟨lo, rfl⟩ : ∃ lo, ot = some lo := by cases ot with
        | none => cases h1
        | some lo => exact ⟨lo, rfl⟩
      obtain ⟨r0, rfl, _⟩ := xt _ (NU (at', oat) (by k_mem)).1
      k_steps
      refine (show Hold _ from ⟨r0, at', oat, lo, _, _, rfl, rfl, FU, fun p hp => ?_, xt, or_pre et h1⟩)
      rcases List.mem_cons.mp hp with rfl | hp
      · exact NU _ (by k_mem)
      · exact NU _ hp
    | false =>
      k_steps
      rename Fr _ _ _ _ => FW
      rename News _ _ _ _ => NW
      obtain ⟨DD, eDD⟩ := nm NW
      subst eDD
      refine (show Hold _ from ⟨DD, DD, { cls := .type "tuple", data := .seq #[] }, [], _, _, rfl, rfl, FW, NW, fun h' e => ⟨_, rfl, _, e, rfl, 0, rfl⟩, no_pre et h1⟩)
  rintro v' s' ⟨ra, at2, ob2, la, h9, tk9, rfl, rfl, FX, NX, xa, ea⟩
  clear FU NU
  k_steps
  refine wpAny_mono (Q := fun v' s' => Hold (∃ rr be2 oe2 l h2 tk2, v' = .ref rr ∧ s' = { heap := h2, gens := gs, drawn := d, toks := tk2, os := o } ∧ Fr g L h2 (told [(Str.ofString "tails", vt), (Str.ofString "ends", ve), (Str.ofString "whole", .ref a')] mS) ∧ News g L h2 [(be2, oe2), (at2, ob2), (TV4, ({ cls := .type "tuple", data := .seq #[v1', v2', v3', vp', vb'] } : Obj)), (ae, oae), (at', oat), (bp', ob'), (ap', oa'), (a', instObj 457 dx'), (dx', dictOf [en w "major" t1' v1', en w "minor" t2' v2', en w "patch" t3' v3', en w "prerelease" t4' vp', en w "build" t5' vb', en w "partial" t6' (.bool false), en w "_cmp_precedence_key" t7' (.ref c1'), en w "_sort_precedence_key" t8' (.ref c2')] kx'), (335, tabObj q5), (392, tabObj q6)] ∧ (∀ h' : Heap, h'.get? be2 = some oe2 → TailV h' (.ref rr) (some l)) ∧ some (l.map fun q => tx q.1) = bldOut false (optL (bldL (tx x))))) ?_ ?_ (fun _ _ e => e)
  · walk1
    k_steps
    refine truthy_tail (o := oe) (xe _ (NX (ae, oae) (by k_mem)).1) (bld_few ee hql2) fun k1 => ?_
    cases h1 : someL oe with
    | true =>
      obtain ⟨lo, rfl⟩ : ∃ lo, oe = some lo := by cases oe with
        | none => cases h1
        | some lo => exact ⟨lo, rfl⟩
      obtain ⟨r0, rfl, _⟩ := xe _ (NX (ae, oae) (by k_mem)).1
      k_steps
      refine (show Hold _ from ⟨r0, ae, oae, lo, _, _, rfl, rfl, FX, fun p hp => ?_, xe, or_bld ee h1⟩)
      rcases List.mem_cons.mp hp with rfl | hp
      · exact NX _ (by k_mem)
      · exact NX _ hp
    | false =>
      k_steps
      rename Fr _ _ _ _ => FW
      rename News _ _ _ _ => NW
      obtain ⟨DD, eDD⟩ := nm NW
      subst eDD
      refine (show Hold _ from ⟨DD, DD, { cls := .type "tuple", data := .seq #[] }, [], _, _, rfl, rfl, FW, NW, fun h' e => ⟨_, rfl, _, e, rfl, 0, rfl⟩, no_bld ee h1⟩)
  rintro v' s' ⟨rb, be2, oe2, lb, hX, tkX, rfl, rfl, FY, NY, xb, eb⟩
  clear FX NX
  k_steps
  rename Fr _ _ _ _ => FZ
  rename News _ _ _ _ => NZ
  have HA := (NZ (ap', oa') (by k_mem)).1
  have HB := (NZ (bp', ob') (by k_mem)).1
  have HA2 := (NZ (at2, ob2) (by k_mem)).1
  have HB2 := (NZ (be2, oe2) (by k_mem)).1
  rw [hD1] at o1'
  rw [hr1] at o2'
  rw [hr2] at o3'
  refine tup5_eq (NZ.isTup (by k_mem)) (NZ.isTup (by k_mem)) (huM _) (opt_eq o1' og0') (opt_eq o2' og1') (opt_eq o3' og2') (tail_eq (h := {}) (gap' _ HA) (xa _ HA2) (huL _) (epp'.trans ea.symm)) (tail_eq (h := {}) (gbp' _ HB) (xb _ HB2) (huL _) (ebb'.trans eb.symm)) ?_
  clear HA HB HA2 HB2
  k_steps
  rename Fr _ _ _ _ => FZ
  rename News _ _ _ _ => NZ
  exact hEnd _ _ _ gg FZ.keep ⟨q5, (NZ (335, tabObj q5) (by k_mem)).1, tr5⟩ ⟨q6, (NZ (392, tabObj q6) (by k_mem)).1, tr6⟩
end Mine
end
section
set_option maxRecDepth 100000
local macro_rules | `(tactic| k_steps) => `(tactic| ((try dsimp only); repeat' (first | ((fail_if_success (with_reducible show PySem.wpAny _ _ (PySem.pyIter (PySem.Value.ref _)) _ _ _)); (fail_if_success (with_reducible show PySem.wpAny _ _ ((PySem.call (PySem.Value.ref _) _ _)) _ _ _)); (fail_if_success (with_reducible show PySem.wpAny _ _ ((PySem.call (PySem.Value.type "tuple") _ _)) _ _ _)); (fail_if_success (with_reducible show PySem.wpAny _ _ ((PySem.call (PySem.Value.type "str") _ _)) _ _ _)); (fail_if_success (with_reducible show PySem.wpAny _ _ ((PySem.noteFrame _ _)) _ _ _)); (fail_if_success (with_reducible show PySem.wpAny _ _ ((PySem.call (PySem.Value.builtin "str.join") _ _)) _ _ _)); (fail_if_success (with_reducible show PySem.wpAny _ _ ((PySem.compareOp _ (PySem.Value.ref _) (PySem.Value.ref _))) _ _ _)); (fail_if_success (with_reducible show PySem.wpAny _ _ ((PySem.eval (PySem.Expr.ListComp _ _ _ _) _)) _ _ _)); (fail_if_success (with_reducible show PySem.wpAny _ _ ((PyProof.Rows.subscriptTail _ _ (PySem.Value.ref _) _)) _ _ _)); (fail_if_success (with_reducible show PySem.wpAny _ _ ((PySem.execs (PySem.Stmt.Assign [PySem.Expr.Name _ _] (PySem.Expr.BinOp _ _ _ _) _ :: _) _)) _ _ _)); (fail_if_success (with_reducible show PySem.wpAny _ _ ((PySem.eval (PySem.Expr.BoolOp PySem.BoolOp.Or [PySem.Expr.Name _ _, PySem.Expr.Tuple _ _ _] _) _)) _ _ _)); (fail_if_success (with_reducible show PySem.wpAny _ _ (PySem.exec (PySem.Stmt.While _ _ _ _) _) _ _ _)); first | (with_reducible refine PySem.wpAny_execs_cons ?_) | ((try dsimp only); walk1)) | fail "no step")))
local macro_rules | `(tactic| tb_rel) => `(tactic| ((try dsimp only); repeat' (first | ((fail_if_success (with_reducible show PySem.wpAny _ _ (PySem.exec (PySem.Stmt.Assign [PySem.Expr.Name _ _] (PySem.Expr.IfExp _ _ _ _) _) _) _ _ _)); (fail_if_success (with_reducible show PySem.wpAny _ _ (PySem.pyIter (PySem.Value.ref _)) _ _ _)); (fail_if_success (with_reducible show PySem.wpAny _ _ ((PySem.call (PySem.Value.ref _) _ _)) _ _ _)); (fail_if_success (with_reducible show PySem.wpAny _ _ ((PySem.call (PySem.Value.type "tuple") _ _)) _ _ _)); (fail_if_success (with_reducible show PySem.wpAny _ _ ((PySem.call (PySem.Value.type "str") _ _)) _ _ _)); (fail_if_success (with_reducible show PySem.wpAny _ _ ((PySem.noteFrame _ _)) _ _ _)); (fail_if_success (with_reducible show PySem.wpAny _ _ ((PySem.call (PySem.Value.builtin "str.join") _ _)) _ _ _)); (fail_if_success (with_reducible show PySem.wpAny _ _ ((PySem.compareOp _ (PySem.Value.ref _) (PySem.Value.ref _))) _ _ _)); (fail_if_success (with_reducible show PySem.wpAny _ _ ((PySem.eval (PySem.Expr.ListComp _ _ _ _) _)) _ _ _)); (fail_if_success (with_reducible show PySem.wpAny _ _ ((PyProof.Rows.subscriptTail _ _ (PySem.Value.ref _) _)) _ _ _)); (fail_if_success (with_reducible show PySem.wpAny _ _ ((PySem.execs (PySem.Stmt.Assign [PySem.Expr.Name _ _] (PySem.Expr.BinOp _ _ _ _) _ :: _) _)) _ _ _)); (fail_if_success (with_reducible show PySem.wpAny _ _ ((PySem.eval (PySem.Expr.BoolOp PySem.BoolOp.Or [PySem.Expr.Name _ _, PySem.Expr.Tuple _ _ _] _) _)) _ _ _)); (fail_if_success (with_reducible show PySem.wpAny _ _ (PySem.exec (PySem.Stmt.While _ _ _ _) _) _ _ _)); first | (with_reducible refine PySem.wpAny_execs_cons ?_) | ((try dsimp only); walk1)) | fail "no step")))
local macro_rules | `(tactic| k_handed) => `(tactic| assumption)
namespace Mine
open PySem PySem.W PyProof.Rows PySem.Calls
local macro_rules | `(tactic| tb_start) => `(tactic| (have X := Ctx.K (by assumption); revert X; delta PR; k_fill; intro X; refine' enter (by assumption) (by k_is) (by k_is) (Nat.lt_trans (by assumption) (by decide)) ?hb (locs ?hl) ?_ rfl rfl rfl (by decide)))
variable {w : World} {loose : List Str} {mg mb : Str → Option Value} {mean : ExcName → Option Value} {A : Around} {s : Shared} {E : Value → Shared → Prop}

local macro_rules | `(tactic| walk_at "callWith ref") => `(tactic| (refine' callWith_MW ?k1 ?k2 ?k3 ?k4 ?k5 ?_; (case k1 => k_asm); (case k2 => k_asm); (case k3 => k_mem); (case k4 => k_is); (case k5 => exact rfl)))
local macro_rules | `(tactic| ktr_unf) => `(tactic| ((try dsimp only); repeat' (first | ((fail_if_success (with_reducible show PySem.wpAny _ _ (PySem.eval (PySem.Expr.Name _ _) _) _ _ _)); (fail_if_success (with_reducible show PySem.wpAny _ _ (PySem.call _ _ _) _ _ _)); ((try dsimp only); walk1)) | fail "no step")))
variable {base g : Heap} {outer : List Env} {L : Addr} {x : Str} {tt : Tok} {D : CD} {h : Heap} {gs : Array GenState} {d : Drawn} {o : OsState} {m : Str → Option Value} {q5 q6 : Array Value} {qual : Str} {scope : Scope} {body : List Stmt} {cdv : Value}
set_option maxHeartbeats 40000000 in
theorem case10 (fn : FnAt (KK w.params) 518 qual scope body cdv) (cg : CG w loose mg mb mean A base g outer L) (cf : CF x D) (F : Fr g L h m) (N : News g L h (D.led w ++ [(335, tabObj q5), (392, tabObj q6)])) (gg : AllBare gs) (tr5 : TriplesOk q5.toList) (tr6 : TriplesOk q6.toList) (l1 : m (Str.ofString "version") = some (.ref D.a)) (l2 : m (Str.ofString "whole") = some (.ref D.a')) (l3 : m (Str.ofString "numbers") = some (.ref D.lr)) (l4 : m (Str.ofString "pre") = some (.str D.p D.tp)) (l5 : m (Str.ofString "build") = some (.str D.q D.tq)) (l6 : m (Str.ofString "tails") = some D.vt) (l7 : m (Str.ofString "ends") = some D.ve) :
    ∀ (tk : Nat) (Q : Flow → Shared → Prop) (E : Value → Shared → Prop), CEnd g d o Q → wpAny (model PR w) (A.deeper (envOf qual scope L 518 cdv)) (execs (body.drop 10) (envOf qual scope L 518 cdv)) Q E { heap := h, gens := gs, drawn := d, toks := tk, os := o } := by
  have cf0 := cf
  have cg0 := cg
  obtain ⟨a, dx, ap, bp, a', dx', ap', bp', T1, lr, at', ae, oa, ob, oa', ob', oT, oat, oae, kx, kx', nlr, v1, v2, v3, vp, vb, v1', v2', v3', vp', vb', vt, ve, t1, t2, t3, t4, t5, t6, t7, t8, t1', t2', t3', t4', t5', t6', t7', t8', c1, c2, c1', c2', pre, bld, pre', bld', ot, oe, D0, D0', rs, rs', items, p, q, tp, tq⟩ := D
  obtain ⟨hx, hbad, hne, pr, hco, hco', o1, o2, o3, o1', o2', o3', epp, ebb, epp', ebb', gap, gbp, gap', gbp', ca, cb, ca', cb', cT', w4, w5, w4', w5', ep, eq, hpl, hql, xt, wt, ct, et, xe, we, ce, ee⟩ := cf
  obtain ⟨C, BL, n1, n2, z1, z2, hd, hh, hu⟩ := cg
  have N : News g L h [(ae, oae), (at', oat), (bp', ob'), (ap', oa'), (a', instObj 457 dx'), (dx', dictOf [en w "major" t1' v1', en w "minor" t2' v2', en w "patch" t3' v3', en w "prerelease" t4' vp', en w "build" t5' vb', en w "partial" t6' (.bool false), en w "_cmp_precedence_key" t7' (.ref c1'), en w "_sort_precedence_key" t8' (.ref c2')] kx'), (bp, ob), (ap, oa), (a, instObj 457 dx), (dx, dictOf [en w "major" t1 v1, en w "minor" t2 v2, en w "patch" t3 v3, en w "prerelease" t4 vp, en w "build" t5 vb, en w "partial" t6 (.bool true), en w "_cmp_precedence_key" t7 (.ref c1), en w "_sort_precedence_key" t8 (.ref c2)] kx), (T1, oT), (lr, W.listOf items nlr), (335, tabObj q5), (392, tabObj q6)] := N
  dsimp only at *
  have FI := explL F [(_, _), (_, _), (_, _), (_, _), (_, _), (_, _), (_, _)] (by simp only [List.forall_mem_cons]; exact ⟨l1, l2, l3, l4, l5, l6, l7, List.forall_mem_nil _⟩)
  clear F l1 l2 l3 l4 l5 l6 l7
  intro tk Q E hEnd
  have X := C.K
  revert X; delta PR; k_fill; intro X
  obtain ⟨rfl, rfl, rfl, rfl⟩ := FnAt.uniq fn (FnAt.intro (by k_is))
  clear fn
  show wpAny (model PR w) _ _ _ _ _
  have T := C.T
  have hx2 : (tx x).length ≤ 200 := by rw [tx_len]; omega
  dsimp only [List.drop]
  refine wpAny_execs_cons ?_
  have hrows : ∀ D ∈ (openL 3 (tx x)).1, NumZ (normD D) := fun D hD => coNums_ok (b := true) hx2 _ (by rw [coNums_true]; exact List.mem_map_of_mem hD)
  have hil : items.toList.length ≤ 3 := by rw [← pr.length]; exact openL_len 3 (tx x)
  have np : (p != Str.ofString "") = !(preL (tx x)).isEmpty := by
    rw [bne, eq_str, tx_nil, ep]; cases preL (tx x) <;> rfl
  have nq' : (q != Str.ofString "") = !(bldL (tx x)).isEmpty := by
    rw [bne, eq_str, tx_nil, eq]; cases bldL (tx x) <;> rfl
  have w1 := opt_handed o1
  have w2 := opt_handed o2
  have w3 := opt_handed o3
  have huK : ∀ env, (A.deeper env).in1.in1.units < cLine := fun env => by rw [PyProof.Rows.units_in1, PyProof.Rows.units_in1, units_deeper]; exact Nat.lt_trans (Nat.add_lt_add_right (Nat.add_lt_add_right (Nat.add_lt_add_right hu 3) 1) 1) (by decide)
  have huL : ∀ env, (A.deeper env).in1.units < cLine := fun env => by rw [PyProof.Rows.units_in1, units_deeper]; exact Nat.lt_trans (Nat.add_lt_add_right (Nat.add_lt_add_right hu 3) 1) (by decide)
  have huM : ∀ env, (A.deeper env).units < cLine := fun env => by rw [units_deeper]; exact Nat.lt_trans (Nat.add_lt_add_right hu 3) (by decide)
  have htl : (toldL (tx x)).length ≤ 158 := by
    have := ver_len (b := true) hne
    unfold toldL
    rw [tx_len] at this; omega
  refine wpAny_join (fun h' => ∃ m' y ty, Fr g L h' m' ∧ News g L h' [(ae, oae), (at', oat), (bp', ob'), (ap', oa'), (a', instObj 457 dx'), (dx', dictOf [en w "major" t1' v1', en w "minor" t2' v2', en w "patch" t3' v3', en w "prerelease" t4' vp', en w "build" t5' vb', en w "partial" t6' (.bool false), en w "_cmp_precedence_key" t7' (.ref c1'), en w "_sort_precedence_key" t8' (.ref c2')] kx'), (bp, ob), (ap, oa), (a, instObj 457 dx), (dx, dictOf [en w "major" t1 v1, en w "minor" t2 v2, en w "patch" t3 v3, en w "prerelease" t4 vp, en w "build" t5 vb, en w "partial" t6 (.bool true), en w "_cmp_precedence_key" t7 (.ref c1), en w "_sort_precedence_key" t8 (.ref c2)] kx), (T1, oT), (lr, W.listOf items nlr), (335, tabObj q5), (392, tabObj q6)] ∧ m' (Str.ofString "version") = some (.ref a) ∧ m' (Str.ofString "whole") = some (.ref a') ∧ m' (Str.ofString "numbers") = some (.ref lr) ∧ m' (Str.ofString "tails") = some vt ∧ m' (Str.ofString "ends") = some ve ∧ m' (Str.ofString "told") = some (.str y ty) ∧ tx y = toldL (tx x)) ?_ ?_
  · k_steps
    rename Fr _ _ _ _ => FG
    rename News _ _ _ _ => NG
    refine comp_list (fun v r => ∃ n t u, v = .int n t ∧ r = .str (Str.ofString (toString n)) u) hh (by decide) (by decide) rfl (by decide) rfl FG NG (lA := lr) (items := items) ⟨_, (NG (lr, W.listOf items nlr) (by k_mem)).1, rfl, nlr, rfl⟩ (Nat.le_trans (show items.size ≤ 3 by simpa using hil) (by decide)) (fun h => ?_) ?_ ?_
    · k_steps
      exact h
    · intro C1 v s₂ m₂ E' hv hn hm hk
      obtain ⟨D, hD, t, rfl⟩ := paired_mem pr v hv
      have T := T.keeps (fun b o e => hk b o (FG.keep b o e))
      have C := Ctx.keeps C (fun b o e => hk b o (FG.keep b o e))
      k_steps
      refine gnameB (v := .type "str") C (by rfl) Boot.«str» (by decide) ?_
      k_steps
      refine P.str_of_int (norm_str (hrows D hD)).2 ?_
      k_steps
      all_goals first | exact ⟨_, _, rfl, fun _ _ e => e⟩ | exact ⟨_, _, _, rfl, rfl⟩
    · intro D2 n2 ys h5 tk5 F5 N5 hP
      obtain ⟨l, hl5, hlm⟩ := told_paired pr hP hrows
      obtain rfl : ys = (strValues l).toArray := by rw [← hl5, Array.toArray_toList]
      clear hP hl5
      have hl1 : ∀ z ∈ l.map (·.1), z.length ≤ 300 := fun z hz => by
        obtain ⟨q, hq, rfl⟩ := List.mem_map.mp hz
        have hm : tx q.1 ∈ (openL 3 (tx x)).1.map normD := by rw [← hlm]; exact List.mem_map_of_mem hq
        obtain ⟨D, hD, e⟩ := List.mem_map.mp hm
        rw [← tx_len, ← e]; exact (hrows D hD).2.2
      have hl2 : l.length ≤ 3 := by
        have h1 := congrArg List.length hlm
        have h2 := openL_len 3 (tx x)
        rw [List.length_map, List.length_map] at h1; omega
      have hjt : tx (Txt.join (Str.ofString ".") (l.map (·.1))) = joinL 46 (coNums true (tx x)) := by
        rw [Txt.join, StrLaws.glued_eq_join, tx_join (c := 46) (by decide +kernel), List.map_map, coNums_true, ← hlm]; rfl
      k_steps
      refine SC.join (isListOf (h₀ := g) (L := L) (N5 _ (.head _))) rfl (joinOk_of hl1 (by rw [List.length_map, show (Str.ofString ".").length = 1 from by decide +kernel]; omega)) (fun t7 k7 => ?_)
      have hyl : (Txt.join (Str.ofString ".") (l.map (·.1))).length ≤ 158 := by
        rw [← tx_len, hjt]
        have := htl
        rw [told_whole, List.length_append] at this; omega
      generalize Txt.join (Str.ofString ".") (l.map (·.1)) = y0 at hjt hyl ⊢
      have e45 : tx (Str.ofString "-") = [45] := by decide +kernel
      have e43 : tx (Str.ofString "+") = [43] := by decide +kernel
      have e00 : tx (Str.ofString "") = [] := by decide +kernel
      have e01 : tx Str.empty = [] := rfl
      cases h1 : (preL (tx x)).isEmpty with
      | false =>
        rw [h1] at np
        have np' : (p != Str.ofString "") = true := np
        cases h2 : (bldL (tx x)).isEmpty with
        | false =>
          rw [h2] at nq'
          have nq2 : (q != Str.ofString "") = true := nq'
          k_steps
          rename Fr _ _ _ _ => Fb
          rename News _ _ _ _ => Nb
          refine Jn.intro ⟨_, _, _, Fb, fun p hp => Nb p (.tail _ hp), rfl, rfl, rfl, rfl, rfl, rfl, ?_⟩
          rw [told_whole, h1, h2]
          simp [tx_append, hjt, ep, eq, e45, e43, e00, e01]
        | true =>
          rw [h2] at nq'
          have nq2 : (q != Str.ofString "") = false := nq'
          k_steps
          rename Fr _ _ _ _ => Fb
          rename News _ _ _ _ => Nb
          refine Jn.intro ⟨_, _, _, Fb, fun p hp => Nb p (.tail _ hp), rfl, rfl, rfl, rfl, rfl, rfl, ?_⟩
          rw [told_whole, h1, h2]
          simp [tx_append, hjt, ep, eq, e45, e43, e00, e01]
      | true =>
        rw [h1] at np
        have np' : (p != Str.ofString "") = false := np
        cases h2 : (bldL (tx x)).isEmpty with
        | false =>
          rw [h2] at nq'
          have nq2 : (q != Str.ofString "") = true := nq'
          k_steps
          rename Fr _ _ _ _ => Fb
          rename News _ _ _ _ => Nb
          refine Jn.intro ⟨_, _, _, Fb, fun p hp => Nb p (.tail _ hp), rfl, rfl, rfl, rfl, rfl, rfl, ?_⟩
          rw [told_whole, h1, h2]
          simp [tx_append, hjt, ep, eq, e45, e43, e00, e01]
        | true =>
          rw [h2] at nq'
          have nq2 : (q != Str.ofString "") = false := nq'
          k_steps
          rename Fr _ _ _ _ => Fb
          rename News _ _ _ _ => Nb
          refine Jn.intro ⟨_, _, _, Fb, fun p hp => Nb p (.tail _ hp), rfl, rfl, rfl, rfl, rfl, rfl, ?_⟩
          rw [told_whole, h1, h2]
          simp [tx_append, hjt, ep, eq, e45, e43, e00, e01]
  rintro hH tkH ⟨mH, y, ty, FH, NH, l1, l2, l3, l4, l5, l6, ety⟩
  have FI := explL FH [(_, _), (_, _), (_, _), (_, _), (_, _), (_, _)] (by simp only [List.forall_mem_cons]; exact ⟨l1, l2, l3, l4, l5, l6, List.forall_mem_nil _⟩)
  clear FH l1 l2 l3 l4 l5 l6
  k_steps
  rename Fr _ _ _ _ => FK
  rename News _ _ _ _ => NK
  have NA := NK (a, instObj 457 dx) (by k_mem)
  have ND := NK (dx, dictOf [en w "major" t1 v1, en w "minor" t2 v2, en w "patch" t3 v3, en w "prerelease" t4 vp, en w "build" t5 vb, en w "partial" t6 (.bool true), en w "_cmp_precedence_key" t7 (.ref c1), en w "_sort_precedence_key" t8 (.ref c2)] kx) (by k_mem)
  have KV : Known g hH [(a, instObj 457 dx), (dx, dictOf [en w "major" t1 v1, en w "minor" t2 v2, en w "patch" t3 v3, en w "prerelease" t4 vp, en w "build" t5 vb, en w "partial" t6 (.bool true), en w "_cmp_precedence_key" t7 (.ref c1), en w "_sort_precedence_key" t8 (.ref c2)] kx)] := fun p hp => by
    rcases List.mem_cons.mp hp with rfl | hp
    · exact ⟨NA.1, NA.2.2⟩
    · rw [List.mem_singleton.mp hp]; exact ⟨ND.1, ND.2.2⟩
  refine kso_call (f := 389) (ox := instObj 457 dx) (od := some _) (huK _) (X.keeps FK.keep) ⟨NA.1, rfl, rfl, ND.1⟩ (by k_is) (by k_is) ?_
  have hnr : ∀ D ∈ D0 :: rs, NumZ D := fun D hD => coNums_ok (b := true) hx2 D (by rw [hco]; exact hD)
  have hpl2 : ∀ p, optL (preL (tx x)) = some p → p.length ≤ 250 := fun p' e => by
    unfold optL at e; split at e
    · cases e
    · cases e; rw [← ep, tx_len]; omega
  have hql2 : ∀ p, optL (bldL (tx x)) = some p → p.length ≤ 250 := fun p' e => by
    unfold optL at e; split at e
    · cases e
    · cases e; rw [← eq, tx_len]; omega
  obtain ⟨hrl, hD1, hr1, hr2⟩ := coNums_both hco hco'
  have HA := (NK (ap, oa) (by k_mem)).1
  have HB := (NK (bp, ob) (by k_mem)).1
  refine callK (str_spec (B := g) C FK.keep (by simp only [depth_deeper]; omega) (by exact hh) (by rw [PyProof.Rows.units_in1, PyProof.Rows.units_in1, units_deeper]; omega) KV o1 o2 o3 hnr hrl (gap _ HA) (gbp _ HB) epp ebb (optL_tl (pre_tail _)) (optL_tl (bld_tail _)) hpl2 hql2) ?_
  rintro v h' tk ⟨z, tz, rfl, ez⟩ kk
  have hzy : (z != y) = false := by
    rw [ne_str, ez, ety]
    unfold toldL; rw [hco]; simp
  have FL := FK.keeps kk
  have NL := News.keeps NK kk
  clear FK NK kk HA HB NA ND KV
  show wpAny _ _ _ _ _ _
  k_steps
  rename Fr _ _ _ _ => FM
  rename News _ _ _ _ => NM
  clear FL NL
  have FG := fr_gndT FM n1 n2 z1 z2
  have hyl : y.length ≤ 158 := by rw [← tx_len, ety]; exact htl
  have hb3 : badC (tx y) = false := by rw [ety]; exact told_good hne hbad
  with_unfolding_all show wpAny _ _ (call (.ref _) [.str y ty] (kwOf true)) _ _ _
  refine callRMT (kw := kwOf true) FM NM (.head _) (coerce_spec (s := { heap := _, gens := gs, drawn := d, toks := _, os := o }) (b := true) ⟨C.keeps FG.keep, BL.push FG rfl, ⟨q5, (NM (335, tabObj q5) (by k_mem)).1, tr5⟩, ⟨q6, (NM (392, tabObj q6) (by k_mem)).1, tr6⟩, gg⟩ (by simp only [depth_deeper]; omega) (by exact hh) (Nat.le_trans hyl (by decide)) (by rw [ety]; exact told_128 hx2)) ?_ ?_
  · intro hc; rw [hb3] at hc; cases hc
  rintro _ v h7 tk7 gs7 gg7 ⟨a2, D2, rs2, rfl, hco2, dx2, kx2, y1, y2, y3, yp, yb, e1, e2, r1, r2, r3, r4, r5, r6, r7, r8, pre2, bld2, ha, hdx, p1, p2, p3, xp, xb, epp2, ebb2, fa, fdx, fvp, fvb⟩ kk tt5
  obtain ⟨q7, e3, tr7⟩ := tt5 335 (.head _)
  obtain ⟨q8, e4, tr8⟩ := tt5 392 (.tail _ (.head _))
  rw [ety, told_nums hne, hco] at hco2
  obtain ⟨rfl, rfl⟩ := List.cons.inj hco2
  rw [ety, told_pre hne, told_bld hne] at epp2
  rw [ety, told_bld hne] at ebb2
  have FN := fr_tabs FM n1 n2 z1 z2 kk
  have NN := news_tabs (extra := [(ae, oae), (at', oat), (bp', ob'), (ap', oa'), (a', instObj 457 dx'), (dx', dictOf [en w "major" t1' v1', en w "minor" t2' v2', en w "patch" t3' v3', en w "prerelease" t4' vp', en w "build" t5' vb', en w "partial" t6' (.bool false), en w "_cmp_precedence_key" t7' (.ref c1'), en w "_sort_precedence_key" t8' (.ref c2')] kx'), (bp, ob), (ap, oa), (a, instObj 457 dx), (dx, dictOf [en w "major" t1 v1, en w "minor" t2 v2, en w "patch" t3 v3, en w "prerelease" t4 vp, en w "build" t5 vb, en w "partial" t6 (.bool true), en w "_cmp_precedence_key" t7 (.ref c1), en w "_sort_precedence_key" t8 (.ref c2)] kx), (T1, oT), (lr, W.listOf items nlr)]) NM (q1 := q5) (q2 := q6) (by k_mem) (by k_mem) (by
    simp only [List.forall_mem_cons]
    exact ⟨⟨by k_mem, ce⟩, ⟨by k_mem, ct⟩, ⟨by k_mem, cb'⟩, ⟨by k_mem, ca'⟩, ⟨by k_mem, by intro q; cases q⟩, ⟨by k_mem, by intro q; cases q⟩, ⟨by k_mem, cb⟩, ⟨by k_mem, ca⟩, ⟨by k_mem, by intro q; cases q⟩, ⟨by k_mem, by intro q; cases q⟩, ⟨by k_mem, cT'⟩, ⟨by k_mem, by intro q; cases q⟩, List.forall_mem_nil _⟩) kk e3 e4
  obtain ⟨ap2, oa2, ha2, ca2, fap, gap2⟩ := tail_obj2 xp ha fa (by intro q; cases q) fvp
  obtain ⟨bp2, ob2, hb2, cb2, fbp, gbp2⟩ := tail_obj2 xb ha fa (by intro q; cases q) fvb
  have NO := more_fresh FG (more_fresh FG (more_fresh FG (more_fresh FG NN hdx fdx) ha fa) ha2 fap) hb2 fbp
  simp only [List.cons_append, List.nil_append] at NO
  have w1y := opt_handed p1
  have w2y := opt_handed p2
  have w3y := opt_handed p3
  have w4y := tail_handed xp
  have w5y := tail_handed xb
  clear FM NM FG NN xp xb ha hdx ha2 hb2 fa fdx fvp fvb fap fbp kk tt5 e3 e4
  k_steps
  rename Fr _ _ _ _ => FP
  rename News _ _ _ _ => NP
  refine call_tuple_ver C hh (by simp only [depth_deeper]; omega) FP NP (a := a2) (dx := dx2) (k := kx2) (b := true) (by k_mem) (show (dx2, dictOf [en w "major" r1 y1, en w "minor" r2 y2, en w "patch" r3 y3, en w "prerelease" r4 yp, en w "build" r5 yb, en w "partial" r6 (.bool true), en w "_cmp_precedence_key" r7 (.ref e1), en w "_sort_precedence_key" r8 (.ref e2)] kx2) ∈ _ by k_mem) w1y w2y w3y w4y w5y ?_
  intro TV2 hE tkE FE NE
  clear FP NP
  k_steps
  rename Fr _ _ _ _ => FP
  rename News _ _ _ _ => NP
  refine call_tuple_ver C hh (by simp only [depth_deeper]; omega) FP NP (a := a) (dx := dx) (k := kx) (b := true) (by k_mem) (show (dx, dictOf [en w "major" t1 v1, en w "minor" t2 v2, en w "patch" t3 v3, en w "prerelease" t4 vp, en w "build" t5 vb, en w "partial" t6 (.bool true), en w "_cmp_precedence_key" t7 (.ref c1), en w "_sort_precedence_key" t8 (.ref c2)] kx) ∈ _ by k_mem) w1 w2 w3 w4 w5 ?_
  intro TV3 hE2 tkE2 FE NE
  clear FP NP
  k_steps
  rename Fr _ _ _ _ => FP
  rename News _ _ _ _ => NP
  have HA := (NP (ap, oa) (by k_mem)).1
  have HB := (NP (bp, ob) (by k_mem)).1
  have HA2 := (NP (ap2, oa2) (by k_mem)).1
  have HB2 := (NP (bp2, ob2) (by k_mem)).1
  refine tup5_ne (NP.isTup (by k_mem)) (NP.isTup (by k_mem)) (huM _) (opt_eq p1 o1) (opt_eq p2 o2) (opt_eq p3 o3) (tail_eq (h := {}) (gap2 _ HA2) (gap _ HA) (huL _) (epp2.trans epp.symm)) (tail_eq (h := {}) (gbp2 _ HB2) (gbp _ HB) (huL _) (ebb2.trans ebb.symm)) ?_
  clear HA HB HA2 HB2
  k_steps
  rename Fr _ _ _ _ => FZ
  rename News _ _ _ _ => NZ
  have N9 : News g L _ [(ae, oae), (at', oat), (bp', ob'), (ap', oa'), (a', instObj 457 dx'), (dx', dictOf [en w "major" t1' v1', en w "minor" t2' v2', en w "patch" t3' v3', en w "prerelease" t4' vp', en w "build" t5' vb', en w "partial" t6' (.bool false), en w "_cmp_precedence_key" t7' (.ref c1'), en w "_sort_precedence_key" t8' (.ref c2')] kx'), (bp, ob), (ap, oa), (a, instObj 457 dx), (dx, dictOf [en w "major" t1 v1, en w "minor" t2 v2, en w "patch" t3 v3, en w "prerelease" t4 vp, en w "build" t5 vb, en w "partial" t6 (.bool true), en w "_cmp_precedence_key" t7 (.ref c1), en w "_sort_precedence_key" t8 (.ref c2)] kx), (T1, oT), (lr, W.listOf items nlr), (335, tabObj q7), (392, tabObj q8)] := fun p hp => NZ p (SubL.mem (by k_subL) p hp)
  have t9 := case12 (w := w) (loose := loose) (mg := mg) (mb := mb) (mean := mean) (A := A) (base := base) (g := g) (outer := outer) (L := L) (x := x) (D := ⟨a, dx, ap, bp, a', dx', ap', bp', T1, lr, at', ae, oa, ob, oa', ob', oT, oat, oae, kx, kx', nlr, v1, v2, v3, vp, vb, v1', v2', v3', vp', vb', vt, ve, t1, t2, t3, t4, t5, t6, t7, t8, t1', t2', t3', t4', t5', t6', t7', t8', c1, c2, c1', c2', pre, bld, pre', bld', ot, oe, D0, D0', rs, rs', items, p, q, tp, tq⟩) (d := d) (o := o) (FnAt.intro (by k_is)) cg0 cf0 FZ N9 gg7 tr7 tr8 rfl rfl rfl rfl
  exact t9 _ _ _ hEnd
end Mine
end
section
set_option maxRecDepth 100000
local macro_rules | `(tactic| k_steps) => `(tactic| ((try dsimp only); repeat' (first | ((fail_if_success (with_reducible show PySem.wpAny _ _ (PySem.pyIter (PySem.Value.ref _)) _ _ _)); (fail_if_success (with_reducible show PySem.wpAny _ _ ((PySem.call (PySem.Value.ref _) _ _)) _ _ _)); (fail_if_success (with_reducible show PySem.wpAny _ _ ((PySem.call (PySem.Value.type "tuple") _ _)) _ _ _)); (fail_if_success (with_reducible show PySem.wpAny _ _ ((PySem.call (PySem.Value.type "str") _ _)) _ _ _)); (fail_if_success (with_reducible show PySem.wpAny _ _ ((PySem.noteFrame _ _)) _ _ _)); (fail_if_success (with_reducible show PySem.wpAny _ _ ((PySem.call (PySem.Value.builtin "str.join") _ _)) _ _ _)); (fail_if_success (with_reducible show PySem.wpAny _ _ ((PySem.compareOp _ (PySem.Value.ref _) (PySem.Value.ref _))) _ _ _)); (fail_if_success (with_reducible show PySem.wpAny _ _ ((PySem.eval (PySem.Expr.ListComp _ _ _ _) _)) _ _ _)); (fail_if_success (with_reducible show PySem.wpAny _ _ ((PyProof.Rows.subscriptTail _ _ (PySem.Value.ref _) _)) _ _ _)); (fail_if_success (with_reducible show PySem.wpAny _ _ ((PySem.execs (PySem.Stmt.Assign [PySem.Expr.Name _ _] (PySem.Expr.BinOp _ _ _ _) _ :: _) _)) _ _ _)); (fail_if_success (with_reducible show PySem.wpAny _ _ ((PySem.eval (PySem.Expr.BoolOp PySem.BoolOp.Or [PySem.Expr.Name _ _, PySem.Expr.Tuple _ _ _] _) _)) _ _ _)); (fail_if_success (with_reducible show PySem.wpAny _ _ (PySem.exec (PySem.Stmt.While _ _ _ _) _) _ _ _)); first | (with_reducible refine PySem.wpAny_execs_cons ?_) | ((try dsimp only); walk1)) | fail "no step")))
local macro_rules | `(tactic| tb_rel) => `(tactic| ((try dsimp only); repeat' (first | ((fail_if_success (with_reducible show PySem.wpAny _ _ (PySem.exec (PySem.Stmt.Assign [PySem.Expr.Name _ _] (PySem.Expr.IfExp _ _ _ _) _) _) _ _ _)); (fail_if_success (with_reducible show PySem.wpAny _ _ (PySem.pyIter (PySem.Value.ref _)) _ _ _)); (fail_if_success (with_reducible show PySem.wpAny _ _ ((PySem.call (PySem.Value.ref _) _ _)) _ _ _)); (fail_if_success (with_reducible show PySem.wpAny _ _ ((PySem.call (PySem.Value.type "tuple") _ _)) _ _ _)); (fail_if_success (with_reducible show PySem.wpAny _ _ ((PySem.call (PySem.Value.type "str") _ _)) _ _ _)); (fail_if_success (with_reducible show PySem.wpAny _ _ ((PySem.noteFrame _ _)) _ _ _)); (fail_if_success (with_reducible show PySem.wpAny _ _ ((PySem.call (PySem.Value.builtin "str.join") _ _)) _ _ _)); (fail_if_success (with_reducible show PySem.wpAny _ _ ((PySem.compareOp _ (PySem.Value.ref _) (PySem.Value.ref _))) _ _ _)); (fail_if_success (with_reducible show PySem.wpAny _ _ ((PySem.eval (PySem.Expr.ListComp _ _ _ _) _)) _ _ _)); (fail_if_success (with_reducible show PySem.wpAny _ _ ((PyProof.Rows.subscriptTail _ _ (PySem.Value.ref _) _)) _ _ _)); (fail_if_success (with_reducible show PySem.wpAny _ _ ((PySem.execs (PySem.Stmt.Assign [PySem.Expr.Name _ _] (PySem.Expr.BinOp _ _ _ _) _ :: _) _)) _ _ _)); (fail_if_success (with_reducible show PySem.wpAny _ _ ((PySem.eval (PySem.Expr.BoolOp PySem.BoolOp.Or [PySem.Expr.Name _ _, PySem.Expr.Tuple _ _ _] _) _)) _ _ _)); (fail_if_success (with_reducible show PySem.wpAny _ _ (PySem.exec (PySem.Stmt.While _ _ _ _) _) _ _ _)); first | (with_reducible refine PySem.wpAny_execs_cons ?_) | ((try dsimp only); walk1)) | fail "no step")))
local macro_rules | `(tactic| k_handed) => `(tactic| assumption)
namespace Mine
open PySem PySem.W PyProof.Rows PySem.Calls
local macro_rules | `(tactic| tb_start) => `(tactic| (have X := Ctx.K (by assumption); revert X; delta PR; k_fill; intro X; refine' enter (by assumption) (by k_is) (by k_is) (Nat.lt_trans (by assumption) (by decide)) ?hb (locs ?hl) ?_ rfl rfl rfl (by decide)))
variable {w : World} {loose : List Str} {mg mb : Str → Option Value} {mean : ExcName → Option Value} {A : Around} {s : Shared} {E : Value → Shared → Prop}

local macro_rules | `(tactic| walk_at "callWith ref") => `(tactic| (refine' callWith_MW ?k1 ?k2 ?k3 ?k4 ?k5 ?_; (case k1 => k_asm); (case k2 => k_asm); (case k3 => k_mem); (case k4 => k_is); (case k5 => exact rfl)))
local macro_rules | `(tactic| ktr_unf) => `(tactic| ((try dsimp only); repeat' (first | ((fail_if_success (with_reducible show PySem.wpAny _ _ (PySem.eval (PySem.Expr.Name _ _) _) _ _ _)); (fail_if_success (with_reducible show PySem.wpAny _ _ (PySem.call _ _ _) _ _ _)); ((try dsimp only); walk1)) | fail "no step")))
variable {base g : Heap} {outer : List Env} {L : Addr} {x : Str} {tt : Tok} {D : CD} {h : Heap} {gs : Array GenState} {d : Drawn} {o : OsState} {m : Str → Option Value} {q5 q6 : Array Value} {qual : Str} {scope : Scope} {body : List Stmt} {cdv : Value}
set_option maxHeartbeats 40000000 in
theorem case8 (fn : FnAt (KK w.params) 518 qual scope body cdv) (cg : CG w loose mg mb mean A base g outer L) (cf : CF x D) (F : Fr g L h m) (N : News g L h (D.led w ++ [(335, tabObj q5), (392, tabObj q6)])) (gg : AllBare gs) (tr5 : TriplesOk q5.toList) (tr6 : TriplesOk q6.toList) (l1 : m (Str.ofString "version") = some (.ref D.a)) (l2 : m (Str.ofString "whole") = some (.ref D.a')) (l3 : m (Str.ofString "numbers") = some (.ref D.lr)) (l4 : m (Str.ofString "pre") = some (.str D.p D.tp)) (l5 : m (Str.ofString "build") = some (.str D.q D.tq)) (l6 : m (Str.ofString "tails") = some D.vt) (l7 : m (Str.ofString "ends") = some D.ve) :
    ∀ (tk : Nat) (Q : Flow → Shared → Prop) (E : Value → Shared → Prop), CEnd g d o Q → wpAny (model PR w) (A.deeper (envOf qual scope L 518 cdv)) (execs (body.drop 8) (envOf qual scope L 518 cdv)) Q E { heap := h, gens := gs, drawn := d, toks := tk, os := o } := by
  have cf0 := cf
  have cg0 := cg
  obtain ⟨a, dx, ap, bp, a', dx', ap', bp', T1, lr, at', ae, oa, ob, oa', ob', oT, oat, oae, kx, kx', nlr, v1, v2, v3, vp, vb, v1', v2', v3', vp', vb', vt, ve, t1, t2, t3, t4, t5, t6, t7, t8, t1', t2', t3', t4', t5', t6', t7', t8', c1, c2, c1', c2', pre, bld, pre', bld', ot, oe, D0, D0', rs, rs', items, p, q, tp, tq⟩ := D
  obtain ⟨hx, hbad, hne, pr, hco, hco', o1, o2, o3, o1', o2', o3', epp, ebb, epp', ebb', gap, gbp, gap', gbp', ca, cb, ca', cb', cT', w4, w5, w4', w5', ep, eq, hpl, hql, xt, wt, ct, et, xe, we, ce, ee⟩ := cf
  obtain ⟨C, BL, n1, n2, z1, z2, hd, hh, hu⟩ := cg
  have N : News g L h [(ae, oae), (at', oat), (bp', ob'), (ap', oa'), (a', instObj 457 dx'), (dx', dictOf [en w "major" t1' v1', en w "minor" t2' v2', en w "patch" t3' v3', en w "prerelease" t4' vp', en w "build" t5' vb', en w "partial" t6' (.bool false), en w "_cmp_precedence_key" t7' (.ref c1'), en w "_sort_precedence_key" t8' (.ref c2')] kx'), (bp, ob), (ap, oa), (a, instObj 457 dx), (dx, dictOf [en w "major" t1 v1, en w "minor" t2 v2, en w "patch" t3 v3, en w "prerelease" t4 vp, en w "build" t5 vb, en w "partial" t6 (.bool true), en w "_cmp_precedence_key" t7 (.ref c1), en w "_sort_precedence_key" t8 (.ref c2)] kx), (T1, oT), (lr, W.listOf items nlr), (335, tabObj q5), (392, tabObj q6)] := N
  dsimp only at *
  have FI := explL F [(_, _), (_, _), (_, _), (_, _), (_, _), (_, _), (_, _)] (by simp only [List.forall_mem_cons]; exact ⟨l1, l2, l3, l4, l5, l6, l7, List.forall_mem_nil _⟩)
  clear F l1 l2 l3 l4 l5 l6 l7
  intro tk Q E hEnd
  have X := C.K
  revert X; delta PR; k_fill; intro X
  obtain ⟨rfl, rfl, rfl, rfl⟩ := FnAt.uniq fn (FnAt.intro (by k_is))
  clear fn
  show wpAny (model PR w) _ _ _ _ _
  have T := C.T
  have hx2 : (tx x).length ≤ 200 := by rw [tx_len]; omega
  dsimp only [List.drop]
  refine wpAny_execs_cons ?_
  have w1 := opt_handed o1
  have w2 := opt_handed o2
  have w3 := opt_handed o3
  have huL : ∀ env, (A.deeper env).in1.units < cLine := fun env => by rw [PyProof.Rows.units_in1, units_deeper]; exact Nat.lt_trans (Nat.add_lt_add_right (Nat.add_lt_add_right hu 3) 1) (by decide)
  have huM : ∀ env, (A.deeper env).units < cLine := fun env => by rw [units_deeper]; exact Nat.lt_trans (Nat.add_lt_add_right hu 3) (by decide)
  have hil : items.toList.length ≤ 3 := by rw [← pr.length]; exact openL_len 3 (tx x)
  k_steps
  rename Fr _ _ _ _ => FD
  rename News _ _ _ _ => ND
  generalize Array.size _ = fl at FD ND ⊢
  refine call_tuple_ver C hh (by simp only [depth_deeper]; omega) FD ND (a := a) (dx := dx) (k := kx) (b := true) (by k_mem) (show (dx, dictOf [en w "major" t1 v1, en w "minor" t2 v2, en w "patch" t3 v3, en w "prerelease" t4 vp, en w "build" t5 vb, en w "partial" t6 (.bool true), en w "_cmp_precedence_key" t7 (.ref c1), en w "_sort_precedence_key" t8 (.ref c2)] kx) ∈ _ by k_mem) w1 w2 w3 w4 w5 ?_
  intro TV hE tkE FE NE
  clear FD ND
  obtain ⟨i0, i1, i2, g0, g1, g2, og0, og1, og2⟩ := full_items (z := Value.none) (E := none) rfl pr hco (by have := coNums_len (b := true) (x := tx x); rw [hco, List.length_cons] at this; omega)
  have og1' : OptI i1 rs[0]? := by
    by_cases h0 : 0 < rs.length
    · rwa [if_pos h0] at og1
    · rw [if_neg h0] at og1; rwa [List.getElem?_eq_none (by omega)]
  have og2' : OptI i2 rs[1]? := by
    by_cases h0 : 1 < rs.length
    · rwa [if_pos h0] at og2
    · rw [if_neg h0] at og2; rwa [List.getElem?_eq_none (by omega)]
  have hg0 := opt_handed og0
  have hg1 := opt_handed og1
  have hg2 := opt_handed og2
  k_steps
  refine pick_list (items := (items.toList ++ [Value.none, Value.none]).toArray) ⟨{ cls := .type "list", data := .seq (items.toList ++ [Value.none, Value.none]).toArray }, (NE (fl, { cls := .type "list", data := .seq (items.toList ++ [Value.none, Value.none]).toArray }) (by k_mem)).1, rfl, 0, rfl⟩ (by decide) (by rw [List.size_toArray]; exact (List.getElem?_eq_some_iff.mp g0).1) (by rw [List.size_toArray, List.length_append]; simp only [List.length_cons, List.length_nil]; omega) fun v _ hv => ?_
  obtain rfl : v = i0 := by
    rw [List.getElem?_toArray] at hv
    exact Option.some.inj (hv.symm.trans g0)
  clear hv
  k_steps
  refine pick_list (items := (items.toList ++ [Value.none, Value.none]).toArray) ⟨{ cls := .type "list", data := .seq (items.toList ++ [Value.none, Value.none]).toArray }, (NE (fl, { cls := .type "list", data := .seq (items.toList ++ [Value.none, Value.none]).toArray }) (by k_mem)).1, rfl, 0, rfl⟩ (by decide) (by rw [List.size_toArray]; exact (List.getElem?_eq_some_iff.mp g1).1) (by rw [List.size_toArray, List.length_append]; simp only [List.length_cons, List.length_nil]; omega) fun v _ hv => ?_
  obtain rfl : v = i1 := by
    rw [List.getElem?_toArray] at hv
    exact Option.some.inj (hv.symm.trans g1)
  clear hv
  k_steps
  refine pick_list (items := (items.toList ++ [Value.none, Value.none]).toArray) ⟨{ cls := .type "list", data := .seq (items.toList ++ [Value.none, Value.none]).toArray }, (NE (fl, { cls := .type "list", data := .seq (items.toList ++ [Value.none, Value.none]).toArray }) (by k_mem)).1, rfl, 0, rfl⟩ (by decide) (by rw [List.size_toArray]; exact (List.getElem?_eq_some_iff.mp g2).1) (by rw [List.size_toArray, List.length_append]; simp only [List.length_cons, List.length_nil]; omega) fun v _ hv => ?_
  obtain rfl : v = i2 := by
    rw [List.getElem?_toArray] at hv
    exact Option.some.inj (hv.symm.trans g2)
  clear hv
  k_steps
  rename Fr _ _ _ _ => FF
  rename News _ _ _ _ => NF
  have HA := (NF (ap, oa) (by k_mem)).1
  have HB := (NF (bp, ob) (by k_mem)).1
  have HA2 := (NF (at', oat) (by k_mem)).1
  have HB2 := (NF (ae, oae) (by k_mem)).1
  refine tup5_ne (NF.isTup (by k_mem)) (NF.isTup (by k_mem)) (huM _) (opt_eq o1 og0) (opt_eq o2 og1') (opt_eq o3 og2') (tail_eq (h := {}) (gap _ HA) (xt _ HA2) (huL _) (epp.trans et.symm)) (tail_eq (h := {}) (gbp _ HB) (xe _ HB2) (huL _) (ebb.trans ee.symm)) ?_
  clear HA HB HA2 HB2
  k_steps
  rename Fr _ _ _ _ => FZ
  rename News _ _ _ _ => NZ
  have N9 : News g L _ [(ae, oae), (at', oat), (bp', ob'), (ap', oa'), (a', instObj 457 dx'), (dx', dictOf [en w "major" t1' v1', en w "minor" t2' v2', en w "patch" t3' v3', en w "prerelease" t4' vp', en w "build" t5' vb', en w "partial" t6' (.bool false), en w "_cmp_precedence_key" t7' (.ref c1'), en w "_sort_precedence_key" t8' (.ref c2')] kx'), (bp, ob), (ap, oa), (a, instObj 457 dx), (dx, dictOf [en w "major" t1 v1, en w "minor" t2 v2, en w "patch" t3 v3, en w "prerelease" t4 vp, en w "build" t5 vb, en w "partial" t6 (.bool true), en w "_cmp_precedence_key" t7 (.ref c1), en w "_sort_precedence_key" t8 (.ref c2)] kx), (T1, oT), (lr, W.listOf items nlr), (335, tabObj q5), (392, tabObj q6)] := fun p hp => NZ p (SubL.mem (by k_subL) p hp)
  have t9 := case10 (w := w) (loose := loose) (mg := mg) (mb := mb) (mean := mean) (A := A) (base := base) (g := g) (outer := outer) (L := L) (x := x) (D := ⟨a, dx, ap, bp, a', dx', ap', bp', T1, lr, at', ae, oa, ob, oa', ob', oT, oat, oae, kx, kx', nlr, v1, v2, v3, vp, vb, v1', v2', v3', vp', vb', vt, ve, t1, t2, t3, t4, t5, t6, t7, t8, t1', t2', t3', t4', t5', t6', t7', t8', c1, c2, c1', c2', pre, bld, pre', bld', ot, oe, D0, D0', rs, rs', items, p, q, tp, tq⟩) (d := d) (o := o) (FnAt.intro (by k_is)) cg0 cf0 FZ N9 gg tr5 tr6 rfl rfl rfl rfl rfl rfl rfl
  show wpAny _ _ _ _ _ _
  exact t9 _ _ _ hEnd
end Mine
end
section
set_option maxRecDepth 100000
local macro_rules | `(tactic| k_steps) => `(tactic| ((try dsimp only); repeat' (first | ((fail_if_success (with_reducible show PySem.wpAny _ _ (PySem.pyIter (PySem.Value.ref _)) _ _ _)); (fail_if_success (with_reducible show PySem.wpAny _ _ ((PySem.call (PySem.Value.ref _) _ _)) _ _ _)); (fail_if_success (with_reducible show PySem.wpAny _ _ ((PySem.call (PySem.Value.type "tuple") _ _)) _ _ _)); (fail_if_success (with_reducible show PySem.wpAny _ _ ((PySem.call (PySem.Value.type "str") _ _)) _ _ _)); (fail_if_success (with_reducible show PySem.wpAny _ _ ((PySem.noteFrame _ _)) _ _ _)); (fail_if_success (with_reducible show PySem.wpAny _ _ ((PySem.call (PySem.Value.builtin "str.join") _ _)) _ _ _)); (fail_if_success (with_reducible show PySem.wpAny _ _ ((PySem.compareOp _ (PySem.Value.ref _) (PySem.Value.ref _))) _ _ _)); (fail_if_success (with_reducible show PySem.wpAny _ _ ((PySem.eval (PySem.Expr.ListComp _ _ _ _) _)) _ _ _)); (fail_if_success (with_reducible show PySem.wpAny _ _ ((PyProof.Rows.subscriptTail _ _ (PySem.Value.ref _) _)) _ _ _)); (fail_if_success (with_reducible show PySem.wpAny _ _ ((PySem.execs (PySem.Stmt.Assign [PySem.Expr.Name _ _] (PySem.Expr.BinOp _ _ _ _) _ :: _) _)) _ _ _)); (fail_if_success (with_reducible show PySem.wpAny _ _ ((PySem.eval (PySem.Expr.BoolOp PySem.BoolOp.Or [PySem.Expr.Name _ _, PySem.Expr.Tuple _ _ _] _) _)) _ _ _)); (fail_if_success (with_reducible show PySem.wpAny _ _ (PySem.exec (PySem.Stmt.While _ _ _ _) _) _ _ _)); first | (with_reducible refine PySem.wpAny_execs_cons ?_) | ((try dsimp only); walk1)) | fail "no step")))
local macro_rules | `(tactic| tb_rel) => `(tactic| ((try dsimp only); repeat' (first | ((fail_if_success (with_reducible show PySem.wpAny _ _ (PySem.exec (PySem.Stmt.Assign [PySem.Expr.Name _ _] (PySem.Expr.IfExp _ _ _ _) _) _) _ _ _)); (fail_if_success (with_reducible show PySem.wpAny _ _ (PySem.pyIter (PySem.Value.ref _)) _ _ _)); (fail_if_success (with_reducible show PySem.wpAny _ _ ((PySem.call (PySem.Value.ref _) _ _)) _ _ _)); (fail_if_success (with_reducible show PySem.wpAny _ _ ((PySem.call (PySem.Value.type "tuple") _ _)) _ _ _)); (fail_if_success (with_reducible show PySem.wpAny _ _ ((PySem.call (PySem.Value.type "str") _ _)) _ _ _)); (fail_if_success (with_reducible show PySem.wpAny _ _ ((PySem.noteFrame _ _)) _ _ _)); (fail_if_success (with_reducible show PySem.wpAny _ _ ((PySem.call (PySem.Value.builtin "str.join") _ _)) _ _ _)); (fail_if_success (with_reducible show PySem.wpAny _ _ ((PySem.compareOp _ (PySem.Value.ref _) (PySem.Value.ref _))) _ _ _)); (fail_if_success (with_reducible show PySem.wpAny _ _ ((PySem.eval (PySem.Expr.ListComp _ _ _ _) _)) _ _ _)); (fail_if_success (with_reducible show PySem.wpAny _ _ ((PyProof.Rows.subscriptTail _ _ (PySem.Value.ref _) _)) _ _ _)); (fail_if_success (with_reducible show PySem.wpAny _ _ ((PySem.execs (PySem.Stmt.Assign [PySem.Expr.Name _ _] (PySem.Expr.BinOp _ _ _ _) _ :: _) _)) _ _ _)); (fail_if_success (with_reducible show PySem.wpAny _ _ ((PySem.eval (PySem.Expr.BoolOp PySem.BoolOp.Or [PySem.Expr.Name _ _, PySem.Expr.Tuple _ _ _] _) _)) _ _ _)); (fail_if_success (with_reducible show PySem.wpAny _ _ (PySem.exec (PySem.Stmt.While _ _ _ _) _) _ _ _)); first | (with_reducible refine PySem.wpAny_execs_cons ?_) | ((try dsimp only); walk1)) | fail "no step")))
local macro_rules | `(tactic| k_handed) => `(tactic| assumption)
namespace Mine
open PySem PySem.W PyProof.Rows PySem.Calls
local macro_rules | `(tactic| tb_start) => `(tactic| (have X := Ctx.K (by assumption); revert X; delta PR; k_fill; intro X; refine' enter (by assumption) (by k_is) (by k_is) (Nat.lt_trans (by assumption) (by decide)) ?hb (locs ?hl) ?_ rfl rfl rfl (by decide)))
variable {w : World} {loose : List Str} {mg mb : Str → Option Value} {mean : ExcName → Option Value} {A : Around} {s : Shared} {E : Value → Shared → Prop}

local macro_rules | `(tactic| walk_at "callWith ref") => `(tactic| (refine' callWith_MW ?k1 ?k2 ?k3 ?k4 ?k5 ?_; (case k1 => k_asm); (case k2 => k_asm); (case k3 => k_mem); (case k4 => k_is); (case k5 => exact rfl)))
local macro_rules | `(tactic| ktr_unf) => `(tactic| ((try dsimp only); repeat' (first | ((fail_if_success (with_reducible show PySem.wpAny _ _ (PySem.eval (PySem.Expr.Name _ _) _) _ _ _)); (fail_if_success (with_reducible show PySem.wpAny _ _ (PySem.call _ _ _) _ _ _)); ((try dsimp only); walk1)) | fail "no step")))
variable {base g : Heap} {outer : List Env} {L : Addr} {x : Str} {tt : Tok} {D : CD} {h : Heap} {gs : Array GenState} {d : Drawn} {o : OsState} {m : Str → Option Value} {q5 q6 : Array Value} {qual : Str} {scope : Scope} {body : List Stmt} {cdv : Value}
set_option maxHeartbeats 40000000 in
theorem case_good {base : Heap} {outer : List Env} (G : Gd w loose mg mb mean A base outer s) (CB : Ctx w loose mg mb mean base) (KD : KtsDicts (outer.filterMap (·.frame)) (gnd s.heap)) (hd : A.depth < 430) (hh : A.handled = none) (hu : A.units < 300) {x : Str} {tt : Tok}
    (hx : x.length ≤ 150) (hp : Plain x) (hbad : badC (tx x) = false) :
    codeAny (model PR w) A (.call (.ref 518) ⟨[.str x tt], []⟩) (RetK (outer.filterMap (·.frame)) s (fun v => v = .bool true)) s := by
  have C0 := G.C.keeps gnd_le
  obtain ⟨q1, u1, tr1⟩ := G.t1
  obtain ⟨q2, u2, tr2⟩ := G.t2
  have b1 := root_none G.B (.inl rfl)
  have b2 := root_none G.B (.inr rfl)
  (have X := C0.K; revert X; delta PR; k_fill; intro X; refine' enter C0 (by k_is) (by k_is) (Nat.lt_trans hd (by decide)) ?hb (locs ?hl) ?_ rfl rfl rfl (by decide))
  case hb => exact BindsTo.of_eq (binds := [("text", .str x tt)]) rfl
  case hl => rfl
  intro L h₁ tk hL htk F C'
  obtain ⟨F2, N2⟩ := to_gnd F (News.nil (L := L)) u1 u2
  clear F C' X C0
  have C := G.C
  have X := C.K
  revert X; k_fill; intro X
  have T := C.T
  have BL := G.B
  simp only [List.nil_append] at N2
  have n1 : (335 : Addr) ≠ L := (N2 _ (.head _)).2.1
  have n2 : (392 : Addr) ≠ L := (N2 _ (.tail _ (.head _))).2.1
  k_steps
  refine callK (due_spec (s := { heap := h₁, gens := s.gens, drawn := s.drawn, toks := _, os := s.os }) (C.keeps F2.keep) (by simp only [depth_deeper]; omega) (by exact hh) (by rw [units_deeper]; omega) (Nat.le_trans hx (by decide)) hp) ?_
  rintro v h2 tk2 D kk
  have F3 := F2.keeps kk
  have N3 := News.keeps N2 kk
  have hp8 : ∀ c ∈ tx x, c < 128 := fun c hc => (hp c hc).1
  unfold Due at D
  rw [hbad, if_neg (by decide)] at D
  obtain ⟨T1, lr, items, p, q, tp, tq, rfl, tT, ⟨nlr, hlr⟩, flr, fT, pr, ep, eq⟩ := D
  obtain ⟨oT, eT, cT, nT, dT⟩ := tT
  have N4 := News.more F3 N3 hlr (fun es n q => by cases q) (kts_none F2.keep flr)
  have N5 := News.more F3 N4 eT (fun es n q => by rw [dT] at q; cases q) (kts_none F2.keep fT)
  clear F2 N2 N3 N4 kk
  k_steps
  rename Fr _ _ _ _ => F4
  rename News _ _ _ _ => N6
  have FG := fr_gndT F4 n1 n2 gnd_none1 gnd_none2
  with_unfolding_all show wpAny _ _ (call (.ref _) [.str x tt] (kwOf true)) _ _ _
  refine callRMT (kw := kwOf true) F4 N6 (.head _) (coerce_spec (s := { heap := _, gens := s.gens, drawn := s.drawn, toks := _, os := s.os }) (b := true) ⟨C.keeps FG.keep, BL.push FG rfl, ⟨q1, (N6 _ (.tail _ (.tail _ (.tail _ (.head _))))).1, tr1⟩, ⟨q2, (N6 _ (.tail _ (.tail _ (.tail _ (.tail _ (.head _)))))).1, tr2⟩, G.g⟩ (by simp only [depth_deeper]; omega) (by exact hh) (Nat.le_trans hx (by decide)) hp8) ?_ ?_
  · intro hc; rw [hbad] at hc; cases hc
  rintro _ v h5 tk5 gs5 gg ⟨a, D0, rs, rfl, hco, dx, kx, v1, v2, v3, vp, vb, c1, c2, t1, t2, t3, t4, t5, t6, t7, t8, pre, bld, ha, hdx, o1, o2, o3, xp, xb, epp, ebb, fa, fdx, fvp, fvb⟩ kk tt5
  have cT' : oT.cls ≠ .none := by rw [cT]; intro q; cases q
  obtain ⟨q3, e3, tr3⟩ := tt5 335 (.head _)
  obtain ⟨q4, e4, tr4⟩ := tt5 392 (.tail _ (.head _))
  have F7 := fr_tabs F4 n1 n2 gnd_none1 gnd_none2 kk
  have N7 := news_tabs (extra := [(T1, oT), (lr, W.listOf items nlr)]) N6 (.tail _ (.tail _ (.tail _ (.head _)))) (.tail _ (.tail _ (.tail _ (.tail _ (.head _))))) (by
    simp only [List.forall_mem_cons]
    exact ⟨⟨.tail _ (.head _), cT'⟩, ⟨.tail _ (.tail _ (.head _)), by intro q; cases q⟩, List.forall_mem_nil _⟩) kk e3 e4
  obtain ⟨ap, oa, ha1, ca, fap, gap⟩ := tail_obj2 xp ha fa (by intro q; cases q) fvp
  obtain ⟨bp, ob, hb1, cb, fbp, gbp⟩ := tail_obj2 xb ha fa (by intro q; cases q) fvb
  have N8 := more_fresh FG (more_fresh FG (more_fresh FG (more_fresh FG N7 hdx fdx) ha fa) ha1 fap) hb1 fbp
  simp only [List.cons_append, List.nil_append] at N8
  have w2 := opt_handed o2
  have w3 := opt_handed o3
  have w4 := tail_handed xp
  have w5 := tail_handed xb
  clear F4 N6 FG N7 xp xb ha hdx ha1 hb1 fa fdx fvp fvb fap fbp kk tt5 e3 e4
  k_steps
  rename Fr _ _ _ _ => F9
  rename News _ _ _ _ => N9
  have FG := fr_gndT F9 n1 n2 gnd_none1 gnd_none2
  with_unfolding_all show wpAny _ _ (call (.ref _) [.str x tt] (kwOf false)) _ _ _
  refine callRMT (kw := kwOf false) F9 N9 (.head _) (coerce_spec (s := { heap := _, gens := gs5, drawn := s.drawn, toks := _, os := s.os }) (b := false) ⟨C.keeps FG.keep, BL.push FG rfl, ⟨q3, (N9 _ (.tail _ (.tail _ (.tail _ (.tail _ (.tail _ (.tail _ (.tail _ (.head _))))))))).1, tr3⟩, ⟨q4, (N9 _ (.tail _ (.tail _ (.tail _ (.tail _ (.tail _ (.tail _ (.tail _ (.tail _ (.head _)))))))))).1, tr4⟩, gg⟩ (by simp only [depth_deeper]; omega) (by exact hh) (Nat.le_trans hx (by decide)) hp8) ?_ ?_
  · intro hc; rw [hbad] at hc; cases hc
  rintro _ v h6 tk6 gs6 gg6 ⟨a', D0', rs', rfl, hco', dx', kx', v1', v2', v3', vp', vb', c1', c2', t1', t2', t3', t4', t5', t6', t7', t8', pre', bld', ha, hdx, o1', o2', o3', xp, xb, epp', ebb', fa, fdx, fvp, fvb⟩ kk tt5
  obtain ⟨q5, e3, tr5⟩ := tt5 335 (.head _)
  obtain ⟨q6, e4, tr6⟩ := tt5 392 (.tail _ (.head _))
  have FA := fr_tabs F9 n1 n2 gnd_none1 gnd_none2 kk
  have NA := news_tabs (extra := [(bp, ob), (ap, oa), (a, _), (dx, _), (T1, oT), (lr, W.listOf items nlr)]) N9 (.tail _ (.tail _ (.tail _ (.tail _ (.tail _ (.tail _ (.tail _ (.head _)))))))) (.tail _ (.tail _ (.tail _ (.tail _ (.tail _ (.tail _ (.tail _ (.tail _ (.head _))))))))) (by
    simp only [List.forall_mem_cons]
    exact ⟨⟨.tail _ (.head _), cb⟩, ⟨.tail _ (.tail _ (.head _)), ca⟩, ⟨.tail _ (.tail _ (.tail _ (.head _))), by intro q; cases q⟩, ⟨.tail _ (.tail _ (.tail _ (.tail _ (.head _)))), by intro q; cases q⟩, ⟨.tail _ (.tail _ (.tail _ (.tail _ (.tail _ (.head _))))), cT'⟩, ⟨.tail _ (.tail _ (.tail _ (.tail _ (.tail _ (.tail _ (.head _)))))), by intro q; cases q⟩, List.forall_mem_nil _⟩) kk e3 e4
  obtain ⟨ap', oa', ha1, ca', fap, gap'⟩ := tail_obj2 xp ha fa (by intro q; cases q) fvp
  obtain ⟨bp', ob', hb1, cb', fbp, gbp'⟩ := tail_obj2 xb ha fa (by intro q; cases q) fvb
  have NB := more_fresh FG (more_fresh FG (more_fresh FG (more_fresh FG NA hdx fdx) ha fa) ha1 fap) hb1 fbp
  simp only [List.cons_append, List.nil_append] at NB
  have w2' := opt_handed o2'
  have w3' := opt_handed o3'
  have w4' := tail_handed xp
  have w5' := tail_handed xb
  clear F9 N9 FG NA xp xb ha hdx ha1 hb1 fa fdx fvp fvb fap fbp kk tt5 e3 e4
  k_steps
  rename Fr _ _ _ _ => FC
  rename News _ _ _ _ => NC
  refine unpackN_ FC NC ⟨oT, (NC _ (.tail _ (.tail _ (.tail _ (.tail _ (.tail _ (.tail _ (.tail _ (.tail _ (.head _)))))))))).1, cT, nT, dT⟩ hh rfl rfl fun h8 F8 N8 => ?_
  clear FC NC
  tb_rel
  have hne : (openL 3 (tx x)).1 ≠ [] := fun q => by unfold badC at hbad; rw [q] at hbad; simp at hbad
  have hpl : p.length ≤ 150 := by
    have h1 := cutL_len ((openL 3 (tx x)).2.map hy)
    have h2 := openL_rest_len 3 (tx x) hne
    rw [List.length_map] at h1
    rw [← tx_len, ep]; unfold preL; rw [tx_len] at h2; omega
  have hql : q.length ≤ 150 := by
    have h1 := cutL_len ((openL 3 (tx x)).2.map hy)
    have h2 := openL_rest_len 3 (tx x) hne
    rw [List.length_map] at h1
    rw [← tx_len, eq]; unfold bldL; rw [List.length_map]; rw [tx_len] at h2; omega
  have np : (p != Str.ofString "") = !(preL (tx x)).isEmpty := by
    rw [bne, eq_str, tx_nil, ep]; cases preL (tx x) <;> rfl
  have nq' : (q != Str.ofString "") = !(bldL (tx x)).isEmpty := by
    rw [bne, eq_str, tx_nil, eq]; cases bldL (tx x) <;> rfl
  have nq : (q == Str.ofString "") = (bldL (tx x)).isEmpty := by
    rw [eq_str, tx_nil, eq]; cases bldL (tx x) <;> rfl
  refine wpAny_join (fun h' => ∃ m' vt ot at' oat, Fr (gnd s.heap) L h' m' ∧ News (gnd s.heap) L h' [(at', oat), (bp', ob'), (ap', oa'), (a', instObj 457 dx'), (dx', dictOf [en w "major" t1' v1', en w "minor" t2' v2', en w "patch" t3' v3', en w "prerelease" t4' vp', en w "build" t5' vb', en w "partial" t6' (.bool false), en w "_cmp_precedence_key" t7' (.ref c1'), en w "_sort_precedence_key" t8' (.ref c2')] kx'), (bp, ob), (ap, oa), (a, instObj 457 dx), (dx, dictOf [en w "major" t1 v1, en w "minor" t2 v2, en w "patch" t3 v3, en w "prerelease" t4 vp, en w "build" t5 vb, en w "partial" t6 (.bool true), en w "_cmp_precedence_key" t7 (.ref c1), en w "_sort_precedence_key" t8 (.ref c2)] kx), (T1, oT), (lr, W.listOf items nlr), (335, tabObj q5), (392, tabObj q6)] ∧ m' (Str.ofString "text") = some (.str x tt) ∧ m' (Str.ofString "version") = some (.ref a) ∧ m' (Str.ofString "whole") = some (.ref a') ∧ m' (Str.ofString "numbers") = some (.ref lr) ∧ m' (Str.ofString "pre") = some (.str p tp) ∧ m' (Str.ofString "build") = some (.str q tq) ∧ m' (Str.ofString "tails") = some vt ∧
    (∀ h' : Heap, h'.get? at' = some oat → TailV h' vt ot) ∧ handedIn vt = true ∧ oat.cls ≠ .none ∧ ot.map (fun l => l.map fun q => tx q.1) = preOut true (optL (preL (tx x))) (optL (bldL (tx x)))) ?_ ?_
  · cases h1 : (preL (tx x)).isEmpty with
    | false =>
      rw [h1] at np
      have np' : (p != Str.ofString "") = true := np
      k_steps
      rename List (Str × Tok) => l
      have hmap := ‹List.map (fun q : Str × Tok => q.1) l = Txt.split _ _›
      rename Fr _ _ _ _ => Fa
      rename News _ _ _ _ => Na
      have hl4 : l.length ≤ 400 := by have := len_le_of_split hmap; omega
      refine call_tuple_list (by assumption) (fun h3 k3 => ?_) (by simp [strValues]; rw [sizeLine_eq]; omega)
      have F3 := (Fa.keeps k3).push { cls := .type "tuple", data := .seq (strValues l).toArray }
      have N3 := News.push (Fa.keeps k3) (News.keeps Na k3) { cls := .type "tuple", data := .seq (strValues l).toArray } rfl
      generalize hap : h3.objs.size = ap0 at N3 ⊢
      generalize Heap.push h3 _ = h4 at F3 N3 ⊢
      clear Fa Na hap k3
      have mtx : l.map (fun q => tx q.1) = splitL 46 (preL (tx x)) := by
        rw [← ep, ← split_tx p (Str.ofString ".") 46 (by decide +kernel), ← hmap, List.map_map]; rfl
      k_steps
      rename Fr _ _ _ _ => Fb
      rename News _ _ _ _ => Nb
      have Nc : News (gnd s.heap) L _ [(ap0, ({ cls := .type "tuple", data := .seq (strValues l).toArray } : Obj)), (bp', ob'), (ap', oa'), (a', instObj 457 dx'), (dx', dictOf [en w "major" t1' v1', en w "minor" t2' v2', en w "patch" t3' v3', en w "prerelease" t4' vp', en w "build" t5' vb', en w "partial" t6' (.bool false), en w "_cmp_precedence_key" t7' (.ref c1'), en w "_sort_precedence_key" t8' (.ref c2')] kx'), (bp, ob), (ap, oa), (a, instObj 457 dx), (dx, dictOf [en w "major" t1 v1, en w "minor" t2 v2, en w "patch" t3 v3, en w "prerelease" t4 vp, en w "build" t5 vb, en w "partial" t6 (.bool true), en w "_cmp_precedence_key" t7 (.ref c1), en w "_sort_precedence_key" t8 (.ref c2)] kx), (T1, oT), (lr, W.listOf items nlr), (335, tabObj q5), (392, tabObj q6)] := fun p hp => Nb p (by
        rcases List.mem_cons.mp hp with rfl | hp
        · exact .head _
        · exact .tail _ (.tail _ hp))
      refine Jn.intro ⟨_, .ref ap0, some l, ap0, { cls := .type "tuple", data := .seq (strValues l).toArray }, Fb, Nc, rfl, rfl, rfl, rfl, rfl, rfl, rfl, fun h' e => ⟨ap0, rfl, _, e, rfl, 0, rfl⟩, rfl, (by intro q; cases q), ?_⟩
      have e0 : optL (preL (tx x)) = some (preL (tx x)) := by unfold optL; rw [h1, if_neg (by decide)]
      rw [e0, Option.map_some, mtx]; rfl
    | true =>
      rw [h1] at np
      have np' : (p != Str.ofString "") = false := np
      have e0 : optL (preL (tx x)) = none := by unfold optL; rw [h1, if_pos rfl]
      cases h2 : (bldL (tx x)).isEmpty with
      | false =>
        rw [h2] at nq
        k_steps
        rename Fr _ _ _ _ => Fb
        rename News _ _ _ _ => Nb
        have e1 : optL (bldL (tx x)) = some (bldL (tx x)) := by unfold optL; rw [h2, if_neg (by decide)]
        obtain ⟨D, eD⟩ := nm Nb
        subst eD
        refine Jn.intro ⟨_, .ref D, some [], D, { cls := .type "tuple", data := .seq #[] }, Fb, Nb, rfl, rfl, rfl, rfl, rfl, rfl, rfl, fun h' e => ⟨_, rfl, _, e, rfl, 0, rfl⟩, rfl, (by intro q; cases q), ?_⟩
        rw [e0, e1]; rfl
      | true =>
        rw [h2] at nq
        k_steps
        rename Fr _ _ _ _ => Fb
        rename News _ _ _ _ => Nb
        have e1 : optL (bldL (tx x)) = none := by unfold optL; rw [h2, if_pos rfl]
        have Nc : News (gnd s.heap) L _ [(T1, oT), (bp', ob'), (ap', oa'), (a', instObj 457 dx'), (dx', dictOf [en w "major" t1' v1', en w "minor" t2' v2', en w "patch" t3' v3', en w "prerelease" t4' vp', en w "build" t5' vb', en w "partial" t6' (.bool false), en w "_cmp_precedence_key" t7' (.ref c1'), en w "_sort_precedence_key" t8' (.ref c2')] kx'), (bp, ob), (ap, oa), (a, instObj 457 dx), (dx, dictOf [en w "major" t1 v1, en w "minor" t2 v2, en w "patch" t3 v3, en w "prerelease" t4 vp, en w "build" t5 vb, en w "partial" t6 (.bool true), en w "_cmp_precedence_key" t7 (.ref c1), en w "_sort_precedence_key" t8 (.ref c2)] kx), (T1, oT), (lr, W.listOf items nlr), (335, tabObj q5), (392, tabObj q6)] := fun p hp => Nb p (by
          rcases List.mem_cons.mp hp with rfl | hp
          · exact .tail _ (.tail _ (.tail _ (.tail _ (.tail _ (.tail _ (.tail _ (.tail _ (.head _))))))))
          · exact hp)
        refine Jn.intro ⟨_, .none, none, T1, oT, Fb, Nc, rfl, rfl, rfl, rfl, rfl, rfl, rfl, fun h' e => rfl, rfl, cT', ?_⟩
        rw [e0, e1]; rfl

  rintro h9 tk9 ⟨m9, vt, ot, at', oat, F9, N9, l1, l2, l3, l4, l5, l6, l7, xt, wt, ct, et⟩
  have F10 := explL F9 [(_, _), (_, _), (_, _), (_, _), (_, _), (_, _), (_, _)] (by simp only [List.forall_mem_cons]; exact ⟨l1, l2, l3, l4, l5, l6, l7, List.forall_mem_nil _⟩)
  clear F9
  tb_rel
  refine wpAny_join (fun h' => ∃ m' ve oe ae oae, Fr (gnd s.heap) L h' m' ∧ News (gnd s.heap) L h' [(ae, oae), (at', oat), (bp', ob'), (ap', oa'), (a', instObj 457 dx'), (dx', dictOf [en w "major" t1' v1', en w "minor" t2' v2', en w "patch" t3' v3', en w "prerelease" t4' vp', en w "build" t5' vb', en w "partial" t6' (.bool false), en w "_cmp_precedence_key" t7' (.ref c1'), en w "_sort_precedence_key" t8' (.ref c2')] kx'), (bp, ob), (ap, oa), (a, instObj 457 dx), (dx, dictOf [en w "major" t1 v1, en w "minor" t2 v2, en w "patch" t3 v3, en w "prerelease" t4 vp, en w "build" t5 vb, en w "partial" t6 (.bool true), en w "_cmp_precedence_key" t7 (.ref c1), en w "_sort_precedence_key" t8 (.ref c2)] kx), (T1, oT), (lr, W.listOf items nlr), (335, tabObj q5), (392, tabObj q6)] ∧ m' (Str.ofString "text") = some (.str x tt) ∧ m' (Str.ofString "version") = some (.ref a) ∧ m' (Str.ofString "whole") = some (.ref a') ∧ m' (Str.ofString "numbers") = some (.ref lr) ∧ m' (Str.ofString "pre") = some (.str p tp) ∧ m' (Str.ofString "build") = some (.str q tq) ∧ m' (Str.ofString "tails") = some vt ∧ m' (Str.ofString "ends") = some ve ∧
    (∀ h' : Heap, h'.get? ae = some oae → TailV h' ve oe) ∧ handedIn ve = true ∧ oae.cls ≠ .none ∧ oe.map (fun l => l.map fun q => tx q.1) = bldOut true (optL (bldL (tx x)))) ?_ ?_
  · cases h1 : (bldL (tx x)).isEmpty with
    | false =>
      rw [h1] at nq'
      have nq2 : (q != Str.ofString "") = true := nq'
      k_steps
      rename List (Str × Tok) => l
      have hmap := ‹List.map (fun q : Str × Tok => q.1) l = Txt.split _ _›
      rename Fr _ _ _ _ => Fa
      rename News _ _ _ _ => Na
      have hl4 : l.length ≤ 400 := by have := len_le_of_split hmap; omega
      refine call_tuple_list (by assumption) (fun h3 k3 => ?_) (by simp [strValues]; rw [sizeLine_eq]; omega)
      have F3 := (Fa.keeps k3).push { cls := .type "tuple", data := .seq (strValues l).toArray }
      have N3 := News.push (Fa.keeps k3) (News.keeps Na k3) { cls := .type "tuple", data := .seq (strValues l).toArray } rfl
      generalize hap : h3.objs.size = ap0 at N3 ⊢
      generalize Heap.push h3 _ = h4 at F3 N3 ⊢
      clear Fa Na hap k3
      have mtx : l.map (fun q => tx q.1) = splitL 46 (bldL (tx x)) := by
        rw [← eq, ← split_tx q (Str.ofString ".") 46 (by decide +kernel), ← hmap, List.map_map]; rfl
      k_steps
      rename Fr _ _ _ _ => Fb
      rename News _ _ _ _ => Nb
      have Nc : News (gnd s.heap) L _ [(ap0, ({ cls := .type "tuple", data := .seq (strValues l).toArray } : Obj)), (at', oat), (bp', ob'), (ap', oa'), (a', instObj 457 dx'), (dx', dictOf [en w "major" t1' v1', en w "minor" t2' v2', en w "patch" t3' v3', en w "prerelease" t4' vp', en w "build" t5' vb', en w "partial" t6' (.bool false), en w "_cmp_precedence_key" t7' (.ref c1'), en w "_sort_precedence_key" t8' (.ref c2')] kx'), (bp, ob), (ap, oa), (a, instObj 457 dx), (dx, dictOf [en w "major" t1 v1, en w "minor" t2 v2, en w "patch" t3 v3, en w "prerelease" t4 vp, en w "build" t5 vb, en w "partial" t6 (.bool true), en w "_cmp_precedence_key" t7 (.ref c1), en w "_sort_precedence_key" t8 (.ref c2)] kx), (T1, oT), (lr, W.listOf items nlr), (335, tabObj q5), (392, tabObj q6)] := fun p hp => Nb p (by
        rcases List.mem_cons.mp hp with rfl | hp
        · exact .head _
        · exact .tail _ (.tail _ hp))
      refine Jn.intro ⟨_, .ref ap0, some l, ap0, { cls := .type "tuple", data := .seq (strValues l).toArray }, Fb, Nc, rfl, rfl, rfl, rfl, rfl, rfl, rfl, rfl, fun h' e => ⟨ap0, rfl, _, e, rfl, 0, rfl⟩, rfl, (by intro q; cases q), ?_⟩
      have e0 : optL (bldL (tx x)) = some (bldL (tx x)) := by unfold optL; rw [h1, if_neg (by decide)]
      rw [e0, Option.map_some, mtx]; rfl
    | true =>
      rw [h1] at nq'
      have nq2 : (q != Str.ofString "") = false := nq'
      have e0 : optL (bldL (tx x)) = none := by unfold optL; rw [h1, if_pos rfl]
      k_steps
      rename Fr _ _ _ _ => Fb
      rename News _ _ _ _ => Nb
      have Nc : News (gnd s.heap) L _ [(T1, oT), (at', oat), (bp', ob'), (ap', oa'), (a', instObj 457 dx'), (dx', dictOf [en w "major" t1' v1', en w "minor" t2' v2', en w "patch" t3' v3', en w "prerelease" t4' vp', en w "build" t5' vb', en w "partial" t6' (.bool false), en w "_cmp_precedence_key" t7' (.ref c1'), en w "_sort_precedence_key" t8' (.ref c2')] kx'), (bp, ob), (ap, oa), (a, instObj 457 dx), (dx, dictOf [en w "major" t1 v1, en w "minor" t2 v2, en w "patch" t3 v3, en w "prerelease" t4 vp, en w "build" t5 vb, en w "partial" t6 (.bool true), en w "_cmp_precedence_key" t7 (.ref c1), en w "_sort_precedence_key" t8 (.ref c2)] kx), (T1, oT), (lr, W.listOf items nlr), (335, tabObj q5), (392, tabObj q6)] := fun p hp => Nb p (by
        rcases List.mem_cons.mp hp with rfl | hp
        · exact .tail _ (.tail _ (.tail _ (.tail _ (.tail _ (.tail _ (.tail _ (.tail _ (.tail _ (.head _)))))))))
        · exact hp)
      refine Jn.intro ⟨_, .none, none, T1, oT, Fb, Nc, rfl, rfl, rfl, rfl, rfl, rfl, rfl, rfl, fun h' e => rfl, rfl, cT', ?_⟩
      rw [e0]; rfl
  clear F10 N9 l1 l2 l3 l4 l5 l6 l7
  rintro hA tkA ⟨m9, ve, oe, ae, oae, F9, N9, l1, l2, l3, l4, l5, l6, l7, l8, xe, we, ce, ee⟩
  have F10 := explL F9 [(_, _), (_, _), (_, _), (_, _), (_, _), (_, _), (_, _), (_, _)] (by simp only [List.forall_mem_cons]; exact ⟨l1, l2, l3, l4, l5, l6, l7, l8, List.forall_mem_nil _⟩)
  clear F9 l1 l2 l3 l4 l5 l6 l7 l8
  tb_rel
  have CGx : CG w loose mg mb mean A base (gnd s.heap) outer L := ⟨C, BL, n1, n2, gnd_none1, gnd_none2, hd, hh, hu⟩
  have CFx : CF x ⟨a, dx, ap, bp, a', dx', ap', bp', T1, lr, at', ae, oa, ob, oa', ob', oT, oat, oae, kx, kx', nlr, v1, v2, v3, vp, vb, v1', v2', v3', vp', vb', vt, ve, t1, t2, t3, t4, t5, t6, t7, t8, t1', t2', t3', t4', t5', t6', t7', t8', c1, c2, c1', c2', pre, bld, pre', bld', ot, oe, D0, D0', rs, rs', items, p, q, tp, tq⟩ := ⟨hx, hbad, hne, pr, hco, hco', o1, o2, o3, o1', o2', o3', epp, ebb, epp', ebb', gap, gbp, gap', gbp', ca, cb, ca', cb', cT', w4, w5, w4', w5', ep, eq, hpl, hql, xt, wt, ct, et, xe, we, ce, ee⟩
  have t9 := case8 (w := w) (loose := loose) (mg := mg) (mb := mb) (mean := mean) (A := A) (base := base) (g := gnd s.heap) (outer := outer) (L := L) (x := x) (D := ⟨a, dx, ap, bp, a', dx', ap', bp', T1, lr, at', ae, oa, ob, oa', ob', oT, oat, oae, kx, kx', nlr, v1, v2, v3, vp, vb, v1', v2', v3', vp', vb', vt, ve, t1, t2, t3, t4, t5, t6, t7, t8, t1', t2', t3', t4', t5', t6', t7', t8', c1, c2, c1', c2', pre, bld, pre', bld', ot, oe, D0, D0', rs, rs', items, p, q, tp, tq⟩) (d := s.drawn) (o := s.os) (FnAt.intro (by k_is)) CGx CFx F10 N9 gg6 tr5 tr6 rfl rfl rfl rfl rfl rfl rfl
  refine t9 _ _ _ ?_
  intro h' tk' gs' gg' kk' tt1 tt2
  exact ⟨_, _, _, gs', gnd s.heap, rfl, rfl, gg', rfl, KtsTurn.refl, kk', tt1, tt2⟩
end Mine
end
section
set_option maxRecDepth 100000
local macro_rules | `(tactic| k_steps) => `(tactic| ((try dsimp only); repeat' (first | ((fail_if_success (with_reducible show PySem.wpAny _ _ (PySem.pyIter (PySem.Value.ref _)) _ _ _)); (fail_if_success (with_reducible show PySem.wpAny _ _ (PyProof.Rows.subscriptTail _ _ (PySem.Value.ref _) (PySem.Value.int _ _)) _ _ _)); (fail_if_success (with_reducible show PySem.wpAny _ _ (PySem.exec (PySem.Stmt.While _ _ _ _) _) _ _ _)); first | (with_reducible refine PySem.wpAny_execs_cons ?_) | ((try dsimp only); walk1)) | fail "no step")))
local macro_rules | `(tactic| tb_rel) => `(tactic| ((try dsimp only); repeat' (first | ((fail_if_success (with_reducible show PySem.wpAny _ _ (PySem.exec (PySem.Stmt.If _ _ _ _) _) _ _ _)); (fail_if_success (with_reducible show PySem.wpAny _ _ (PySem.pyIter (PySem.Value.ref _)) _ _ _)); (fail_if_success (with_reducible show PySem.wpAny _ _ (PyProof.Rows.subscriptTail _ _ (PySem.Value.ref _) (PySem.Value.int _ _)) _ _ _)); (fail_if_success (with_reducible show PySem.wpAny _ _ (PySem.exec (PySem.Stmt.While _ _ _ _) _) _ _ _)); first | (with_reducible refine PySem.wpAny_execs_cons ?_) | ((try dsimp only); walk1)) | fail "no step")))
namespace Mine
open PySem PySem.W PyProof.Rows PySem.Calls
local macro_rules | `(tactic| tb_start) => `(tactic| (have X := Ctx.K (by assumption); revert X; delta PR; k_fill; intro X; refine' enter (by assumption) (by k_is) (by k_is) (Nat.lt_trans (by assumption) (by decide)) ?hb (locs ?hl) ?_ rfl rfl rfl (by decide)))
local macro_rules | `(tactic| walk_at "call ref") => `(tactic| ((with_reducible show wpAny _ _ (call (Value.ref 489) _ _) _ _ _); refine callR (by k_asm) (by k_asm) (mix_spec (Ctx.keeps (by assumption) (Fr.keep (by k_asm))) (by simp only [depth_deeper]; omega) (by assumption) (by omega)) ?_; intro v' h' tk' P' F' N' hk'; (obtain ⟨z', t', e', hz1, hz2⟩ := P'); subst e'; clear hk'; (try k_sweep)))
local macro_rules | `(tactic| walk_at "call ref") => `(tactic| ((with_reducible show wpAny _ _ (call (Value.ref 475) _ _) _ _ _); refine callR (by k_asm) (by k_asm) (pieces_spec (Ctx.keeps (by assumption) (Fr.keep (by k_asm))) (by simp only [depth_deeper]; omega)) ?_; intro v' h' tk' P' F' N' hk'; (obtain ⟨l', it', e', hl1, hl2, hl3⟩ := P'); subst e'; clear hk'; (try k_sweep)))
local macro_rules | `(tactic| walk_at "call type:range") => `(tactic| ((rename Fr _ _ _ _ => F'); (rename News _ _ _ _ => N'); (with_unfolding_all refine range1_rows F' N' ?_); clear F' N'; intro h' tk' t' u' v' R' F' N' k'; clear k'))
local macro_rules | `(tactic| walk_at "call type:str") => `(tactic| (refine P.str_of_int (fm_log (by decide +kernel) (by decide +kernel)) ?_))
local macro_rules | `(tactic| walk_at "call builtin:list.append") => `(tactic| ((with_reducible show wpAny _ _ (call (Value.builtin "list.append") [Value.ref _, Value.str _ _]) _ _ _); (rename Fr _ _ _ _ => F'); (rename News _ _ _ _ => N'); refine append_S F' N' (by assumption) (by omega) ?_; clear F' N'; intro h' F' N'))
variable {w : World} {loose : List Str} {mg mb : Str → Option Value} {mean : ExcName → Option Value} {A : Around} {s : Shared} {E : Value → Shared → Prop}
theorem rangeSmall {b : Int} (h0 : 0 ≤ b) (h1 : b < 1000) : Builtin.Range.small 0 b 1 = true ∧ Builtin.Range.rangeSize 0 b 1 = ((b.toNat : Nat) : Int) := by
  refine ⟨small_one (by decide) (by decide) (by omega) (by omega), ?_⟩
  rw [rangeSize_one]
  split <;> omega
set_option maxHeartbeats 4000000 in
theorem text_spec (C : Ctx w loose mg mb mean s.heap) (hd : A.depth < 459) (hh : A.handled = none) {n p : Int} {tn tp : Tok} (hn : PyData.layable0 (.int n) = true) (hp : 0 ≤ p ∧ p < 100) :
    codeAny (model PR w) A (.call (.ref 496) ⟨[.int n tn, .int p tp], []⟩) (Ret s fun v _ => ∃ x t, v = .str x t ∧ x.length ≤ 120 ∧ Plain x) s := by
  tb_start
  case hb => exact BindsTo.of_eq (binds := [("number", .int n tn), ("place", .int p tp)]) rfl
  case hl => rfl
  intro L h₁ tk hL htk F C'
  have T := C.T
  have N : News s.heap L h₁ [] := News.nil
  tb_rel
  rename Fr _ _ _ _ => F1
  rename News _ _ _ _ => N1
  -- the rows: a text of at most 92 plain signs
  refine wpAny_join (fun h' => ∃ m x t, Fr s.heap L h' m ∧ m "number" = some (.int n tn) ∧ m "place" = some (.int p tp) ∧ m "text" = some (.str x t) ∧ x.length ≤ 100 ∧ Plain x) ?_ ?_
  · k_steps
    · rename Fr _ _ _ _ => F2
      rename News _ _ _ _ => N2
      rename IsRange _ _ _ _ _ _ _ _ => R2
      obtain ⟨lr, elr⟩ := nm N2
      subst elr
      have hb : ∀ q : Int, _ ∧ _ := fun q => rangeSmall (b := q.fmod 3 + 1) (by have := Int.fmod_nonneg_of_pos q (show (0:Int) < 3 by decide); omega) (by have := Int.fmod_lt_of_pos q (show (0:Int) < 3 by decide); omega)
      refine iterJ_range (L := L) (J := fun i m nx => (∃ z t, m "n" = some (.int z t) ∧ 0 ≤ z ∧ z < 2 ^ 61) ∧ m "row" = some (.ref lr) ∧ m "number" = some (.int n tn) ∧ m "place" = some (.int p tp) ∧
        ∃ (l : List (Str × Tok)) (c : Nat), nx = [(lr, listOf (strValues l).toArray c)] ∧ l.length = i ∧ ∀ q ∈ l, q.1.length ≤ 30 ∧ Plain q.1) rfl hh R2 (hb _).1 (hb _).2 F2 N2 ?_ ?_ ?_
      · exact ⟨⟨_, _, rfl, fdiv_bounds (by assumption) (by assumption) (by decide)⟩, rfl, rfl, rfl, [], 0, rfl, rfl, fun _ h => nomatch h⟩
      · rintro i t m₁ news₁ h tk own hi ⟨⟨z, tz, e1, hz0, hz1⟩, e2, e3, e4, l, c, rfl, hl, hq⟩ hadr hoff F3 N3
        have F4 := explX F3 [(_, _), (_, _), (_, _), (_, _)] (by simp only [List.forall_mem_cons]; exact ⟨e1, e2, e3, e4, List.forall_mem_nil _⟩) rfl
        simp only [List.cons_append, List.nil_append] at N3
        clear F3
        replace hoff := ownOff_one hoff
        have hi3 : i < 3 := Nat.lt_of_lt_of_le hi (fm_toNat1 _ 3 (by decide))
        k_steps
        all_goals (rename Fr _ _ _ _ => F6; rename News _ _ _ _ => N6; refine TEnd.intro (nx := [(lr, listOf (strValues (l ++ [(_, _)])).toArray _)]) F6 N6 (fun p hp => hp) rfl ⟨⟨_, _, rfl, fdiv_bounds (fdiv_bounds hz0 hz1 (by decide)).1 (fdiv_bounds hz0 hz1 (by decide)).2 (by decide)⟩, rfl, rfl, rfl, _, _, rfl, ?_, snoc_all (P := fun x => x.length ≤ 30 ∧ Plain x) hq ?_⟩; (simp [hl]))
        · exact fm_text (by decide +kernel) (by decide +kernel)
        · have q : ∀ a : Int, _ ∧ _ := fun a => fm_text2 (a := a) (b := 12) (by decide +kernel) (by decide +kernel)
          refine ⟨?_, plain_append (by decide +kernel) (q _).2⟩
          rw [Str.length_append]
          exact Nat.add_le_add (show (Str.ofString "00").length ≤ 28 by decide +kernel) (q _).1
        · exact fm_text (by decide +kernel) (by decide +kernel)
      · rintro m₁ news₁ h tk ⟨⟨z, tz, e1, hz0, hz1⟩, e2, e3, e4, l, c, rfl, hl, hq⟩ hadr F3 N3
        have F4 := explL F3 [(_, _), (_, _), (_, _), (_, _)] (by simp only [List.forall_mem_cons]; exact ⟨e1, e2, e3, e4, List.forall_mem_nil _⟩)
        clear F3
        have hl3 : l.length ≤ 3 := hl ▸ fm_toNat1 _ 3 (by decide)
        have hq' : ∀ x ∈ l.map (·.1), x.length ≤ 30 := fun x hx => by obtain ⟨q, h, rfl⟩ := List.mem_map.mp hx; exact (hq q h).1
        have hq2 : ∀ x ∈ l.map (·.1), Plain x := fun x hx => by obtain ⟨q, h, rfl⟩ := List.mem_map.mp hx; exact (hq q h).2
        k_steps
        refine SC.join (isListOf (h₀ := s.heap) (L := L) (N3 _ (.head _))) rfl (joinOk_of hq' (by rw [List.length_map, show (Str.ofString ".").length = 1 from by decide +kernel]; omega)) ?_
        intro t' k'
        k_steps
        rename Fr _ _ _ _ => F2
        refine Jn.intro ⟨_, _, _, F2, rfl, rfl, rfl, ?_, ?_⟩
        · rw [Txt.join, StrLaws.glued_eq_join]
          refine Nat.le_trans (join_len hq') ?_
          rw [List.length_map, show (Str.ofString ".").length = 1 from by decide +kernel]; omega
        · rw [Txt.join, StrLaws.glued_eq_join]
          exact join_plain (by decide +kernel) _ hq2
    · rename Fr _ _ _ _ => F2
      exact Jn.intro ⟨_, _, _, F2, rfl, rfl, rfl, by decide +kernel, by decide +kernel⟩
  · rintro h' tk' ⟨m, x, t, F2, e1, e2, e3, hx1, hx2⟩
    have F3 := explL F2 [(_, _), (_, _), (_, _)] (by simp only [List.forall_mem_cons]; exact ⟨e1, e2, e3, List.forall_mem_nil _⟩)
    have N2 : News s.heap L h' [] := News.nil
    clear F2 F1 N1
    k_steps
    rename Fr _ _ _ _ => F4
    rename News _ _ _ _ => N4
    rename IsRange _ _ _ _ _ _ _ _ => R4
    have hb : ∀ q : Int, _ ∧ _ := fun q => rangeSmall (b := q.fmod 7) (Int.fmod_nonneg_of_pos q (by decide)) (by have := Int.fmod_lt_of_pos q (show (0:Int) < 7 by decide); omega)
    refine iterJ_range (L := L) (J := fun i m nx => (∃ z t, m "n" = some (.int z t) ∧ 0 ≤ z ∧ z < 2 ^ 61) ∧ ∃ x t, m "text" = some (.str x t) ∧ x.length ≤ 100 + 3 * i ∧ Plain x) rfl hh R4 (hb _).1 (hb _).2 F4 N4 ?_ ?_ ?_
    · exact ⟨⟨_, _, rfl, by assumption, by assumption⟩, _, _, rfl, hx1, hx2⟩
    · rintro i t m₁ news₁ h tk own hi ⟨⟨z, tz, e1, hz0, hz1⟩, x, tx, e2, hx1, hx2⟩ hadr hoff F3 N3
      have F5 := explX F3 [(_, _), (_, _)] (by simp only [List.forall_mem_cons]; exact ⟨e1, e2, List.forall_mem_nil _⟩) rfl
      clear F3
      k_steps
      rename_i hl1 hl2 hl3
      refine pick_list hl1 (Int.fmod_nonneg_of_pos _ (by decide)) (by rw [hl2]; exact fm_toNat _ 20 (by decide)) (by rw [hl2]; decide) ?_
      intro v hv _
      obtain ⟨y, ty, rfl, hy1, hy2⟩ := hl3 v hv
      k_steps
      rename Fr _ _ _ _ => F6
      rename News _ _ _ _ => N6
      refine TEnd.intro F6 N6 (fun p hp => hp) hadr ⟨⟨_, _, rfl, fdiv_bounds (fdiv_bounds hz0 hz1 (by decide)).1 (fdiv_bounds hz0 hz1 (by decide)).2 (by decide)⟩, _, _, rfl, ?_, plain_append hx2 hy2⟩
      rw [Str.length_append]; omega
    · rintro m₁ news₁ h tk ⟨_, x, tx, e2, hx1, hx2⟩ hadr F3 N3
      have F5 := explL F3 [(_, _)] (by simp only [List.forall_mem_cons]; exact ⟨e2, List.forall_mem_nil _⟩)
      k_steps
      refine Ret.intro ⟨_, _, rfl, ?_, hx2⟩ F3.keep
      exact Nat.le_trans hx1 (Nat.le_trans (Nat.add_le_add_left (Nat.mul_le_mul_left 3 (Nat.le_of_lt_succ (fm_toNat _ 7 (by decide)))) 100) (by decide))
end Mine
end
section
set_option maxRecDepth 100000
namespace Mine
open PySem PySem.W PyProof.Rows PySem.Calls
section
variable {prog : Program} {w : World} {A : Around} {s : Shared} {env : Env} {target : Expr} {body : List Stmt} {Q : Flow → Shared → Prop}
/-- a turn's end -/
def TurnEnd (Q : Flow → Shared → Prop) (J : Shared → Prop) (f : Flow) (s₃ : Shared) : Prop := match f with
  | .ret v => Q (.ret v) s₃
  | .brk => Q .next s₃
  | .next => J s₃
  | .cont => J s₃
theorem forInv {I : Addr} {fp wr : List Addr} {n : Nat} {P Md : Nat → Value → Heap → Prop} {St : Nat → Heap → Prop} (W : KTurns prog w A target I fp wr n P Md St) (Inv : Nat → Shared → Prop)
    (move : ∀ i (s : Shared) h' tk, Inv i s → (∀ b o, b ∉ wr → s.heap.get? b = some o → h'.get? b = some o) → Inv i { s with heap := h', toks := tk })
    (step : ∀ i v s₁, i < n → P i v s₁.heap → Inv i s₁ → St (i + 1) s₁.heap → wpAny (model prog w) A (assign target env v) (fun _ s₂ => wpAny (model prog w) A (execs body env) (TurnEnd Q fun s₃ => Inv (i + 1) s₃ ∧ St (i + 1) s₃.heap) (fun _ _ => False) s₂) (fun _ _ => False) s₁)
    (done : ∀ s', Inv n s' → Q .next s') (hst : St 0 s.heap) (h0 : Inv 0 s) :
    codeAny (model prog w) A (.forLoop target (.ref I) body [] env) (fun r s' => match r with | .ok f => Q f s' | .error e => cameBackBy (model prog w) A env (fun _ _ => False) e s') s := by
  refine codeAny_forLoop_any (fun k s' => ∃ i, Inv i s' ∧ St i s'.heap ∧ i ≤ n ∧ k = n + 1 - i) ?_ (n + 1) ⟨0, h0, hst, Nat.zero_le _, rfl⟩
  rintro k s' ⟨i, hI, hst', hi, rfl⟩
  by_cases hlt : i < n
  · refine W.item i _ _ _ hlt hst' fun v h₁ tk₁ hMd hk₁ => ?_
    refine W.go i v _ _ _ hMd fun h₂ hP hst₂ hk₂ => ?_
    have hI2 := move i s' h₂ tk₁ hI (fun b o hb e => hk₂ b o hb (hk₁ b o hb e))
    refine wpAny_mono (step i v _ hlt hP hI2 hst₂) (fun _ s₂ h₂' => wpAny_mono h₂' (fun f s₃ h₃ => ?_) fun _ _ e => e.elim) fun _ _ e => e.elim
    cases f with
    | ret v => exact h₃
    | brk => exact h₃
    | cont => exact ⟨n + 1 - (i + 1), by omega, i + 1, h₃.1, h₃.2, hlt, rfl⟩
    | next => exact ⟨n + 1 - (i + 1), by omega, i + 1, h₃.1, h₃.2, hlt, rfl⟩
  · have hin : i = n := by omega
    subst hin
    refine W.done _ _ _ hst' fun h₁ tk₁ hk₁ => wpAny_execs_nil ?_
    exact done _ (move i s' h₁ tk₁ hI hk₁)
/-- the loop stands before its first turn -/
def LoopReady (prog : Program) (w : World) (A : Around) (env : Env) (target : Expr) (body : List Stmt) (Q : Flow → Shared → Prop) (it : Value) (s : Shared) : Prop :=
  codeAny (model prog w) A (.forLoop target it body [] env) (fun r s' => match r with | .ok f => Q f s' | .error e => cameBackBy (model prog w) A env (fun _ _ => False) e s') s
theorem For_ready {iter : Expr} {pos : Pos}
    (h : wpAny (model prog w) A (eval iter env) (fun xv s₁ => wpAny (model prog w) A (pyIter xv) (fun it s₂ => LoopReady prog w A env target body Q it s₂) (fun _ _ => False) s₁) (fun _ _ => False) s)
    (hs : ∀ x, foldedSetIterable iter env x = pure x := by intro _; rfl) :
    wpAny (model prog w) A (exec (.For target iter body [] pos) env) Q (fun _ _ => False) s := wpAny_For h hs
/-- the enumerator's objects between the turns -/
def EnumAt (l : Addr) (items : Array Value) (z : Nat) (i : Nat) (h : Heap) : Prop := (∃ old, IsEnum h (z + 1) z i old) ∧ h.IsListIter z l i ∧ h.IsList l items
theorem enum_ready {elts : List Expr} {k : Nat} {pos : Pos} {l : Addr} {items : Array Value} (hh : A.handled = none) (hl : s.heap.IsList l items) (Inv : Nat → Shared → Prop)
    (move : ∀ i (s₁ : Shared) h' tk, Inv i s₁ → (∀ b o, b ≠ s.heap.objs.size + 1 → b ≠ s.heap.objs.size → s₁.heap.get? b = some o → h'.get? b = some o) → Inv i { s₁ with heap := h', toks := tk })
    (step : ∀ (i : Nat) T t x s₁, items[i]? = some x → IsTup s₁.heap T #[.int (i : Int) t, x] → Inv i s₁ → EnumAt l items s.heap.objs.size (i + 1) s₁.heap →
      wpAny (model prog w) A (assign (.Tuple elts k pos) env (.ref T)) (fun _ s₂ => wpAny (model prog w) A (execs body env) (TurnEnd Q fun s₃ => Inv (i + 1) s₃ ∧ EnumAt l items s.heap.objs.size (i + 1) s₃.heap) (fun _ _ => False) s₂) (fun _ _ => False) s₁)
    (done : ∀ s', Inv items.size s' → Q .next s') (h0 : ∀ h', (∀ b o, s.heap.get? b = some o → h'.get? b = some o) → Inv 0 { s with heap := h' }) :
    wpAny (model prog w) A (call (.type "enumerate") [.ref l]) (fun xv s₁ => wpAny (model prog w) A (pyIter xv) (fun it s₂ => LoopReady prog w A env (.Tuple elts k pos) body Q it s₂) (fun _ _ => False) s₁) (fun _ _ => False) s := by
  have hlt : l < s.heap.objs.size := let ⟨_, e, _⟩ := hl; Heap.lt_size e
  refine call_enumerate_list hl fun h' hE hI hsz hk => wpAny_pyIter_enum hE ?_
  refine forInv (KTurns.ofWalksU (WalksT.enumerate hh (s.heap.objs.size + 1) s.heap.objs.size l (Nat.succ_ne_self _) (Nat.ne_of_lt (Nat.lt_succ_of_lt hlt)) (Nat.ne_of_lt hlt) items).toU) Inv (fun i s₁ h₂ tk hI k => move i s₁ h₂ tk hI fun b o n1 n2 e => k b o (by simp [n1, n2]) e) ?_ done ⟨⟨_, hE⟩, hI, hl.at fun o e => hk l o e⟩ (h0 h' hk)
  rintro i v s₁ hi ⟨T, vals, rfl, ⟨t, x, hx, rfl⟩, hT⟩ hI1 st
  exact step i T t x s₁ hx hT hI1 st
end
/-- what the law's own frame keeps of a call that may turn it -/
theorem law_turn {g h h' g' : Heap} {L : Addr} {m : Str → Option Value} (F : Fr g L h m) (z1 : g.get? 335 = none) (z2 : g.get? 392 = none) (n1 : (335 : Addr) ≠ L) (n2 : (392 : Addr) ≠ L) (T : KtsTurn [L] (gnd h) g') (k : ∀ b o, g'.get? b = some o → h'.get? b = some o) :
    Fr g L h' m ∧ ∀ b o, b ≠ 335 → b ≠ 392 → b ≠ L → h.get? b = some o → h'.get? b = some o := by
  have kk : ∀ b o, b ≠ 335 → b ≠ 392 → b ≠ L → h.get? b = some o → h'.get? b = some o := fun b o h1 h2 h3 e => k b o (T.other b o (le_gnd e h1 h2) (by simpa using h3))
  refine ⟨⟨?_, fun b o e => kk b o (fun q => by rw [q, z1] at e; cases e) (fun q => by rw [q, z2] at e; cases e) (fun q => ?_) (F.keep b o e), F.above⟩, kk⟩
  · have N := F.ns
    obtain ⟨o, es, ep, e1, e2, e3⟩ := N
    obtain ⟨sl, hs⟩ := T.up (le_gnd e1 (Ne.symm n1) (Ne.symm n2))
    exact ⟨_, es, ep, k _ _ hs, e2, e3⟩
  · rw [q] at e
    exact absurd (Heap.lt_size e) (Nat.not_lt.mpr F.above)
theorem news_turn {g h h' : Heap} {L : Addr} {news : List (Addr × Obj)} {q1 q2 q3 q4 : Array Value} (N : News g L h (news ++ [(335, tabObj q1), (392, tabObj q2)])) (hc : ∀ p ∈ news, p.2.cls ≠ .none)
    (kk : ∀ b o, b ≠ 335 → b ≠ 392 → b ≠ L → h.get? b = some o → h'.get? b = some o) (e1 : h'.get? 335 = some (tabObj q3)) (e2 : h'.get? 392 = some (tabObj q4)) : News g L h' (news ++ [(335, tabObj q3), (392, tabObj q4)]) := fun p hp => by
  have m1 : (335, tabObj q1) ∈ news ++ [(335, tabObj q1), (392, tabObj q2)] := List.mem_append_right _ (.head _)
  have m2 : (392, tabObj q2) ∈ news ++ [(335, tabObj q1), (392, tabObj q2)] := List.mem_append_right _ (.tail _ (.head _))
  rcases List.mem_append.mp hp with hp | hp
  · have hm := List.mem_append_left [(335, tabObj q1), (392, tabObj q2)] hp
    exact ⟨kk _ _ (ne_tab (N p hm).1 (N _ m1).1 (hc p hp)) (ne_tab (N p hm).1 (N _ m2).1 (hc p hp)) (N p hm).2.1 (N p hm).1, (N p hm).2⟩
  · rcases List.mem_cons.mp hp with rfl | hp
    · exact ⟨e1, (N _ m1).2⟩
    · rw [List.mem_singleton.mp hp]; exact ⟨e2, (N _ m2).2⟩
end Mine
end
section
set_option maxRecDepth 100000
local macro_rules | `(tactic| k_steps) => `(tactic| ((try dsimp only); repeat' (first | ((fail_if_success (with_reducible show PySem.wpAny _ _ (PySem.pyIter (PySem.Value.ref _)) _ _ _)); (fail_if_success (with_reducible show PySem.wpAny _ _ ((PySem.call (PySem.Value.ref _) _ _)) _ _ _)); (fail_if_success (with_reducible show PySem.wpAny _ _ ((PySem.call (PySem.Value.type "str") _ _)) _ _ _)); (fail_if_success (with_reducible show PySem.wpAny _ _ ((PySem.call (PySem.Value.type "enumerate") _ _)) _ _ _)); (fail_if_success (with_reducible show PySem.wpAny _ _ ((PyProof.Rows.subscriptTail _ _ (PySem.Value.ref _) _)) _ _ _)); (fail_if_success (with_reducible show PySem.wpAny _ _ ((PySem.exec (PySem.Stmt.For _ _ _ _ _) _)) _ _ _)); (fail_if_success (with_reducible show PySem.wpAny _ _ (PySem.exec (PySem.Stmt.While _ _ _ _) _) _ _ _)); first | (with_reducible refine PySem.wpAny_execs_cons ?_) | ((try dsimp only); walk1)) | fail "no step")))
local macro_rules | `(tactic| tb_rel) => `(tactic| ((try dsimp only); repeat' (first | ((fail_if_success (with_reducible show PySem.wpAny _ _ (PySem.exec (PySem.Stmt.If _ _ _ _) _) _ _ _)); (fail_if_success (with_reducible show PySem.wpAny _ _ (PySem.pyIter (PySem.Value.ref _)) _ _ _)); (fail_if_success (with_reducible show PySem.wpAny _ _ ((PySem.call (PySem.Value.ref _) _ _)) _ _ _)); (fail_if_success (with_reducible show PySem.wpAny _ _ ((PySem.call (PySem.Value.type "str") _ _)) _ _ _)); (fail_if_success (with_reducible show PySem.wpAny _ _ ((PySem.call (PySem.Value.type "enumerate") _ _)) _ _ _)); (fail_if_success (with_reducible show PySem.wpAny _ _ ((PyProof.Rows.subscriptTail _ _ (PySem.Value.ref _) _)) _ _ _)); (fail_if_success (with_reducible show PySem.wpAny _ _ ((PySem.exec (PySem.Stmt.For _ _ _ _ _) _)) _ _ _)); (fail_if_success (with_reducible show PySem.wpAny _ _ (PySem.exec (PySem.Stmt.While _ _ _ _) _) _ _ _)); first | (with_reducible refine PySem.wpAny_execs_cons ?_) | ((try dsimp only); walk1)) | fail "no step")))
local macro_rules | `(tactic| k_handed) => `(tactic| assumption)
namespace Mine
open PySem PySem.W PyProof.Rows PySem.Calls
local macro_rules | `(tactic| tb_start) => `(tactic| (have X := Ctx.K (by assumption); revert X; delta PR; k_fill; intro X; refine' enter (by assumption) (by k_is) (by k_is) (Nat.lt_trans (by assumption) (by decide)) ?hb (locs ?hl) ?_ rfl rfl rfl (by decide)))
variable {w : World} {loose : List Str} {mg mb : Str → Option Value} {mean : ExcName → Option Value} {A : Around} {s : Shared} {E : Value → Shared → Prop}

local macro_rules | `(tactic| walk_at "callWith ref") => `(tactic| (refine' callWith_MW ?k1 ?k2 ?k3 ?k4 ?k5 ?_; (case k1 => k_asm); (case k2 => k_asm); (case k3 => k_mem); (case k4 => k_is); (case k5 => exact rfl)))
local macro_rules | `(tactic| ktr_unf) => `(tactic| ((try dsimp only); repeat' (first | ((fail_if_success (with_reducible show PySem.wpAny _ _ (PySem.eval (PySem.Expr.Name _ _) _) _ _ _)); (fail_if_success (with_reducible show PySem.wpAny _ _ (PySem.call _ _ _) _ _ _)); ((try dsimp only); walk1)) | fail "no step")))
def LawT (s : Shared) (r : Result) (s' : Shared) : Prop :=
  ∃ h' tk gs, r = .ok (.ret (.bool true)) ∧ s' = { s with heap := h', toks := tk, gens := gs } ∧ AllBare gs ∧ (∀ b o, (gnd s.heap).get? b = some o → h'.get? b = some o) ∧ TabP h' 335 ∧ TabP h' 392
theorem callRK {prog : Program} {A : Around} {E : Value → Shared → Prop} {Q : Value → Shared → Prop} {f : Addr} {fs : List Addr} {pos : List Value} {P : Value → Prop}
    (h : codeAny (model prog w) A (.call (.ref f) ⟨pos, []⟩) (RetK fs s P) s)
    (k : ∀ v h' tk gs g', P v → AllBare gs → KtsTurn fs (gnd s.heap) g' → (∀ b o, g'.get? b = some o → h'.get? b = some o) → TabP h' 335 → TabP h' 392 → Q v { s with heap := h', toks := tk, gens := gs }) : wpAny (model prog w) A (call (.ref f) pos []) Q E s := by
  refine wpAny_call (codeAny_mono h fun r s' hr => ?_)
  obtain ⟨v, h', tk, gs, g', rfl, rfl, gg, p, T, kk, t1, t2⟩ := hr
  exact k v h' tk gs g' p gg T kk t1 t2
theorem case_spec {base : Heap} {outer : List Env} (G : Gd w loose mg mb mean A base outer s) (CB : Ctx w loose mg mb mean base) (KD : KtsDicts (outer.filterMap (·.frame)) (gnd s.heap)) (hd : A.depth < 430) (hh : A.handled = none) (hu : A.units < 300) {x : Str} {tt : Tok}
    (hx : x.length ≤ 150) (hp : Plain x) :
    codeAny (model PR w) A (.call (.ref 518) ⟨[.str x tt], []⟩) (RetK (outer.filterMap (·.frame)) s (fun v => v = .bool true)) s := by
  cases hb : badC (tx x) with
  | true => exact case_bad G CB KD hd hh hu hx hp hb
  | false => exact case_good G CB KD hd hh hu hx hp hb
abbrev goodRow (x y : Str) : Prop := x.length ≤ 150 ∧ Plain x ∧ badC (tx x) = false ∧ tx y = toldL (tx x)
theorem good_of {l m : List Nat} (h : decide (goodRow ⟨l.toArray⟩ ⟨m.toArray⟩) = true) : goodRow ⟨l.toArray⟩ ⟨m.toArray⟩ := of_decide_eq_true h
def typedL : Array Value := #[.ref 476, .ref 477, .ref 478, .ref 479, .ref 480, .ref 481]
theorem typed_in {P : Params} {h : Heap} (X : (KK P).In h) : h.IsList 482 typedL := ⟨listOf typedL 0, X 482 _ (by kernel_rfl), rfl, 0, rfl⟩
theorem row_in {P : Params} {h : Heap} (X : (KK P).In h) {i : Nat} {v : Value} (e : typedL[i]? = some v) : ∃ r x t y u, v = .ref r ∧ h.get? r = some (listOf #[.str x t, .str y u] 0) ∧ goodRow x y := by
  match i, e with
  | 0, e => cases e; exact ⟨476, _, _, _, _, rfl, X 476 (listOf #[.str (Str.ofString "007.010") 1257, .str (Str.ofString "7.10") 1258] 0) (by kernel_rfl), by decide +kernel⟩
  | 1, e => cases e; exact ⟨477, _, _, _, _, rfl, X 477 (listOf #[.str (Str.ofString "0.1+2-3+4_5") 1259, .str (Str.ofString "0.1+2-3.4-5") 1260] 0) (by kernel_rfl), by decide +kernel⟩
  | 2, e => cases e; exact ⟨478, _, _, _, _, rfl, X 478 (listOf #[.str (Str.ofString "1.2a") 1261, .str (Str.ofString "1.2-a") 1262] 0) (by kernel_rfl), by decide +kernel⟩
  | 3, e => cases e; exact ⟨479, _, _, _, _, rfl, X 479 (listOf #[.str (Str.ofString "1-") 1263, .str (Str.ofString "1") 1264] 0) (by kernel_rfl), by decide +kernel⟩
  | 4, e => cases e; exact ⟨480, _, _, _, _, rfl, X 480 (listOf #[.str (Str.ofString "01.2.3.4+5") 1265, .str (Str.ofString "1.2.3+4.5") 1266] 0) (by kernel_rfl), by decide +kernel⟩
  | 5, e => cases e; exact ⟨481, _, _, _, _, rfl, X 481 (listOf #[.str (Str.ofString "1_2.x") 1267, .str (Str.ofString "1-2.x") 1268] 0) (by kernel_rfl), by decide +kernel⟩
  | n + 6, e => simp [typedL] at e
/-- what stands between the turns of law -/
def LawInv (s : Shared) (L l : Addr) (_ : Nat) (s₁ : Shared) : Prop :=
  ∃ h tk gs q1 q2 m, s₁ = { s with heap := h, toks := tk, gens := gs } ∧ AllBare gs ∧ Fr (gnd s.heap) L h m ∧ News (gnd s.heap) L h [(335, tabObj q1), (392, tabObj q2)] ∧ TriplesOk q1.toList ∧ TriplesOk q2.toList ∧ m (Str.ofString "script") = some (.ref l)
theorem law_move {L l : Addr} {wr : List Addr} (hw : ∀ b ∈ wr, (gnd s.heap).get? b = none ∧ b ≠ L ∧ b ≠ 335 ∧ b ≠ 392) : ∀ i (s₁ : Shared) h' tk, LawInv s L l i s₁ → (∀ b o, b ∉ wr → s₁.heap.get? b = some o → h'.get? b = some o) → LawInv s L l i { s₁ with heap := h', toks := tk } := by
  rintro i s₁ h' tk ⟨h, tk1, gs, q1, q2, m, rfl, gg, F, N, t1, t2, ms⟩ k
  refine ⟨h', tk, gs, q1, q2, m, rfl, gg, ⟨F.ns.at' fun o e => k L o (fun hm => (hw L hm).2.1 rfl) e, fun b o e => k b o (fun hm => by rw [(hw b hm).1] at e; cases e) (F.keep b o e), F.above⟩, fun p hp => ⟨k _ _ (fun hm => ?_) (N p hp).1, (N p hp).2⟩, t1, t2, ms⟩
  rcases List.mem_cons.mp hp with rfl | hp
  · exact (hw _ hm).2.2.1 rfl
  · rw [List.mem_singleton.mp hp] at hm; exact (hw _ hm).2.2.2 rfl
theorem fr_dicts {g h : Heap} {L : Addr} {m : Str → Option Value} (F : Fr g L h m) (n1 : (335 : Addr) ≠ L) (n2 : (392 : Addr) ≠ L) : KtsDicts [L] (gnd h) := fun b hb => by
  rw [List.mem_singleton.mp hb]
  obtain ⟨o, es, ep, e1, e2, _⟩ := F.ns
  exact ⟨o, es, ep, le_gnd e1 (Ne.symm n1) (Ne.symm n2), e2⟩
theorem ints_at : ∀ {vs : List Value} {ns : List Int}, IntsAre vs ns → ∀ {i : Nat} {v : Value}, vs[i]? = some v → ∃ n t, v = .int n t ∧ n ∈ ns ∧ i < ns.length
  | [], _, _, i, v, e => by simp at e
  | _ :: _, _, .cons n t h, 0, v, e => by simp at e; subst e; exact ⟨n, t, rfl, .head _, by simp⟩
  | _ :: _, _, .cons n t h, i + 1, v, e => by
    obtain ⟨m, u, e1, e2, e3⟩ := ints_at h (i := i) (by simpa using e)
    exact ⟨m, u, e1, .tail _ e2, by simpa using e3⟩
theorem new_at {g h : Heap} {L b : Addr} {m : Str → Option Value} {q1 q2 : Array Value} (F : Fr g L h m) (e1 : h.get? 335 = some (tabObj q1)) (e2 : h.get? 392 = some (tabObj q2)) (hb : h.objs.size ≤ b) : g.get? b = none ∧ b ≠ L ∧ b ≠ 335 ∧ b ≠ 392 := by
  refine ⟨?_, fun e => ?_, fun e => ?_, fun e => ?_⟩
  · cases e : g.get? b with
    | none => rfl
    | some o => exact absurd (Heap.lt_size (F.keep b o e)) (Nat.not_lt.mpr hb)
  · exact absurd (e ▸ F.ns.lt) (Nat.not_lt.mpr hb)
  · exact absurd (Heap.lt_size e1) (Nat.not_lt.mpr (e ▸ hb))
  · exact absurd (Heap.lt_size e2) (Nat.not_lt.mpr (e ▸ hb))
theorem news_cons {g h : Heap} {L a : Addr} {o : Obj} {news : List (Addr × Obj)} (e : h.get? a = some o) (f : g.get? a = none) (n : a ≠ L) (N : News g L h news) : News g L h ((a, o) :: news) := fun p hp => by
  rcases List.mem_cons.mp hp with rfl | hp
  · exact ⟨e, n, f⟩
  · exact N p hp
end Mine
end
section
set_option maxRecDepth 100000
local macro_rules | `(tactic| k_steps) => `(tactic| ((try dsimp only); repeat' (first | ((fail_if_success (with_reducible show PySem.wpAny _ _ (PySem.pyIter (PySem.Value.ref _)) _ _ _)); (fail_if_success (with_reducible show PySem.wpAny _ _ ((PySem.call (PySem.Value.ref _) _ _)) _ _ _)); (fail_if_success (with_reducible show PySem.wpAny _ _ ((PySem.call (PySem.Value.type "str") _ _)) _ _ _)); (fail_if_success (with_reducible show PySem.wpAny _ _ ((PySem.call (PySem.Value.type "enumerate") _ _)) _ _ _)); (fail_if_success (with_reducible show PySem.wpAny _ _ ((PyProof.Rows.subscriptTail _ _ (PySem.Value.ref _) _)) _ _ _)); (fail_if_success (with_reducible show PySem.wpAny _ _ ((PySem.exec (PySem.Stmt.For _ _ _ _ _) _)) _ _ _)); (fail_if_success (with_reducible show PySem.wpAny _ _ (PySem.exec (PySem.Stmt.While _ _ _ _) _) _ _ _)); first | (with_reducible refine PySem.wpAny_execs_cons ?_) | ((try dsimp only); walk1)) | fail "no step")))
local macro_rules | `(tactic| tb_rel) => `(tactic| ((try dsimp only); repeat' (first | ((fail_if_success (with_reducible show PySem.wpAny _ _ (PySem.exec (PySem.Stmt.If _ _ _ _) _) _ _ _)); (fail_if_success (with_reducible show PySem.wpAny _ _ (PySem.pyIter (PySem.Value.ref _)) _ _ _)); (fail_if_success (with_reducible show PySem.wpAny _ _ ((PySem.call (PySem.Value.ref _) _ _)) _ _ _)); (fail_if_success (with_reducible show PySem.wpAny _ _ ((PySem.call (PySem.Value.type "str") _ _)) _ _ _)); (fail_if_success (with_reducible show PySem.wpAny _ _ ((PySem.call (PySem.Value.type "enumerate") _ _)) _ _ _)); (fail_if_success (with_reducible show PySem.wpAny _ _ ((PyProof.Rows.subscriptTail _ _ (PySem.Value.ref _) _)) _ _ _)); (fail_if_success (with_reducible show PySem.wpAny _ _ ((PySem.exec (PySem.Stmt.For _ _ _ _ _) _)) _ _ _)); (fail_if_success (with_reducible show PySem.wpAny _ _ (PySem.exec (PySem.Stmt.While _ _ _ _) _) _ _ _)); first | (with_reducible refine PySem.wpAny_execs_cons ?_) | ((try dsimp only); walk1)) | fail "no step")))
local macro_rules | `(tactic| k_handed) => `(tactic| assumption)
namespace Mine
open PySem PySem.W PyProof.Rows PySem.Calls
local macro_rules | `(tactic| tb_start) => `(tactic| (have X := Ctx.K (by assumption); revert X; delta PR; k_fill; intro X; refine' enter (by assumption) (by k_is) (by k_is) (Nat.lt_trans (by assumption) (by decide)) ?hb (locs ?hl) ?_ rfl rfl rfl (by decide)))
variable {w : World} {loose : List Str} {mg mb : Str → Option Value} {mean : ExcName → Option Value} {A : Around} {s : Shared} {E : Value → Shared → Prop}

local macro_rules | `(tactic| walk_at "callWith ref") => `(tactic| (refine' callWith_MW ?k1 ?k2 ?k3 ?k4 ?k5 ?_; (case k1 => k_asm); (case k2 => k_asm); (case k3 => k_mem); (case k4 => k_is); (case k5 => exact rfl)))
local macro_rules | `(tactic| ktr_unf) => `(tactic| ((try dsimp only); repeat' (first | ((fail_if_success (with_reducible show PySem.wpAny _ _ (PySem.eval (PySem.Expr.Name _ _) _) _ _ _)); (fail_if_success (with_reducible show PySem.wpAny _ _ (PySem.call _ _ _) _ _ _)); ((try dsimp only); walk1)) | fail "no step")))
set_option maxHeartbeats 40000000 in
theorem law_spec (C : Ctx w loose mg mb mean (gnd s.heap)) (t1 : TabP s.heap 335) (t2 : TabP s.heap 392) (hg : AllBare s.gens) {l : Addr} {items : Array Value} {ns : List Int} (hl : (gnd s.heap).IsList l items) (hi : IntsAre items.toList ns) (hn : ∀ n ∈ ns, PyData.layable0 (.int n) = true) (hn63 : ns.length ≤ 63) :
    codeAny (model PR w) callerA (.call (.ref 525) ⟨[.ref l], []⟩) (LawT s) s := by
  have C0 := C.keeps gnd_le
  obtain ⟨q1, u1, tr1⟩ := t1
  obtain ⟨q2, u2, tr2⟩ := t2
  (have X := C0.K; revert X; delta PR; k_fill; intro X; refine' enter C0 (by k_is) (by k_is) (by decide) ?hb (locs ?hl) ?_ rfl rfl rfl (by decide))
  case hb => exact BindsTo.of_eq (binds := [("script", .ref l)]) rfl
  case hl => rfl
  intro L h₁ tk hL htk F C'
  obtain ⟨F2, N2⟩ := to_gnd F (News.nil (L := L)) u1 u2
  clear F C' X C0
  have X := C.K
  revert X; k_fill; intro X
  have T := C.T
  simp only [List.nil_append] at N2
  have n1 : (335 : Addr) ≠ L := (N2 _ (.head _)).2.1
  have n2 : (392 : Addr) ≠ L := (N2 _ (.tail _ (.head _))).2.1
  refine wpAny_mono (E := fun _ _ => False) ?_ (fun _ _ h => h) (fun _ _ h => h.elim)
  k_steps
  refine For_ready ?_
  k_steps
  rename Fr _ _ _ _ => F3
  rename News _ _ _ _ => N3
  have hTy := typed_in (C.keeps F3.keep).K
  have hlt : (482 : Addr) < h₁.objs.size := let ⟨_, e, _⟩ := hTy; Heap.lt_size e
  have hIn : (gnd s.heap).get? h₁.objs.size = none := next_is_new F3
  have hIL : h₁.objs.size ≠ L := fun e => absurd F3.ns.lt (e ▸ Nat.lt_irrefl _)
  have hI1 : h₁.objs.size ≠ 335 := fun e => absurd (Heap.lt_size (N3 _ (.head _)).1) (by rw [e]; exact Nat.lt_irrefl _)
  have hI2 : h₁.objs.size ≠ 392 := fun e => absurd (Heap.lt_size (N3 _ (.tail _ (.head _))).1) (by rw [e]; exact Nat.lt_irrefl _)
  refine wpAny_pyIter_list hTy ?_
  generalize hIe : h₁.objs.size = I at hIn hIL hI1 hI2 ⊢
  refine forInv (KTurns.ofWalks (Walks.list rfl I 482 (hIe ▸ Nat.ne_of_lt hlt) typedL) fun i v s Q E st q => letGo_listiter st.1 q) (LawInv s L l) (law_move (fun b hb => by rw [List.mem_singleton.mp hb]; exact ⟨hIn, hIL, hI1, hI2⟩)) ?step ?done ?hst ?h0
  case hst => exact ⟨⟨_, by rw [← hIe]; exact Heap.get?_push_size _ rfl, rfl, rfl⟩, hTy.push _⟩
  case h0 => exact ⟨_, _, s.gens, q1, q2, _, rfl, hg, F3.push _, fun p hp => ⟨Heap.get?_push_of_some _ (N3 p hp).1, (N3 p hp).2⟩, tr1, tr2, rfl⟩
  case step =>
    rintro i v s₁ hi hP ⟨h2, tk2, gs2, q3, q4, m2, rfl, gg2, F4, N4, tr3, tr4, ms2⟩ st
    obtain ⟨oI, hoI, cI, dI⟩ := st.1
    obtain ⟨r, x0, t0, y0, u0, rfl, hr, gr⟩ := row_in C.K hP
    have N5 : News (gnd s.heap) L h2 [(I, oI), (335, tabObj q3), (392, tabObj q4)] := fun p hp => by
      rcases List.mem_cons.mp hp with rfl | hp
      · exact ⟨hoI, hIL, hIn⟩
      · exact N4 p hp
    have F5 := explL F4 [(_, _)] (by simp only [List.forall_mem_cons]; exact ⟨ms2, List.forall_mem_nil _⟩)
    clear F3 N3 F4 N4 hP st ms2
    k_steps
    rename Fr _ _ _ _ => F6
    rename News _ _ _ _ => N6
    refine pick_list (items := #[.str x0 t0, .str y0 u0]) ⟨_, F6.keep _ _ hr, rfl, 0, rfl⟩ (by decide) (by show 0 < 2; decide) (by show 2 ≤ 1000; decide) fun v _ hv => ?_
    obtain rfl : .str x0 t0 = v := Option.some.inj hv
    clear hv
    k_steps
    have FG := fr_gndT F6 n1 n2 gnd_none1 gnd_none2
    refine callRK (fs := [L]) (case_spec (base := gnd s.heap) (outer := [_]) (s := { heap := _, gens := gs2, drawn := s.drawn, toks := _, os := s.os }) ⟨C.keeps FG.keep, (below_caller (gnd s.heap)).push FG rfl, ⟨q3, (N6 (335, tabObj q3) (by k_mem)).1, tr3⟩, ⟨q4, (N6 (392, tabObj q4) (by k_mem)).1, tr4⟩, gg2⟩ C (fr_dicts F6 n1 n2) (by simp only [depth_deeper]; decide) (by exact rfl) (by rw [units_deeper]; decide) gr.1 gr.2.1) ?_
    rintro v h4 tk4 gs4 g4 rfl gg4 T4 k4 ⟨q5, e5, tr5⟩ ⟨q6, e6, tr6⟩
    obtain ⟨F7, kk⟩ := law_turn F6 gnd_none1 gnd_none2 n1 n2 T4 k4
    have N7 := news_turn (news := [(I, oI)]) N6 (by simp only [List.forall_mem_cons]; exact ⟨(by rw [cI]; intro q; cases q), List.forall_mem_nil _⟩) kk e5 e6
    simp only [List.cons_append, List.nil_append] at N7
    clear F6 N6 FG T4 k4 kk e5 e6 tr3 tr4 hoI
    k_steps
    rename Fr _ _ _ _ => F8
    rename News _ _ _ _ => N8
    refine pick_list (items := #[.str x0 t0, .str y0 u0]) ⟨_, F8.keep _ _ hr, rfl, 0, rfl⟩ (by decide) (by show 0 < 2; decide) (by show 2 ≤ 1000; decide) fun v _ hv => ?_
    obtain rfl : .str x0 t0 = v := Option.some.inj hv
    clear hv
    k_steps
    have FG := fr_gndT F8 n1 n2 gnd_none1 gnd_none2
    with_unfolding_all show wpAny _ _ (call (.ref _) [.str x0 t0] (kwOf true)) _ _ _
    refine callRMT (kw := kwOf true) F8 N8 (.head _) (coerce_spec (base := gnd s.heap) (outer := [_]) (s := { heap := _, gens := gs4, drawn := s.drawn, toks := _, os := s.os }) (b := true) ⟨C.keeps FG.keep, (below_caller (gnd s.heap)).push FG rfl, ⟨q5, (N8 (335, tabObj q5) (by k_mem)).1, tr5⟩, ⟨q6, (N8 (392, tabObj q6) (by k_mem)).1, tr6⟩, gg4⟩ (by simp only [depth_deeper]; decide) (by exact rfl) (Nat.le_trans gr.1 (by decide)) (fun c hc => (gr.2.1 c hc).1)) ?_ ?_
    · intro hc; rw [gr.2.2.1] at hc; cases hc
    rintro _ v h7 tk7 gs7 gg7 ⟨a2, D2, rs2, rfl, hco2, dx2, kx2, y1, y2, y3, yp, yb, e1, e2, r1, r2, r3, r4, r5, r6, r7, r8, pre2, bld2, ha, hdx, p1, p2, p3, xp, xb, epp2, ebb2, fa, fdx, fvp, fvb⟩ kk tt5
    obtain ⟨q7, e3, tr7⟩ := tt5 335 (.head _)
    obtain ⟨q8, e4, tr8⟩ := tt5 392 (.tail _ (.head _))
    have F9 := fr_tabs F8 n1 n2 gnd_none1 gnd_none2 kk
    have N9 := news_tabs (extra := [(I, oI)]) N8 (q1 := q5) (q2 := q6) (by k_mem) (by k_mem) (by
      simp only [List.forall_mem_cons]
      exact ⟨⟨by k_mem, by rw [cI]; intro q; cases q⟩, List.forall_mem_nil _⟩) kk e3 e4
    obtain ⟨ap2, oa2, ha2, ca2, fap, gap2⟩ := tail_obj2 xp ha fa (by intro q; cases q) fvp
    obtain ⟨bp2, ob2, hb2, cb2, fbp, gbp2⟩ := tail_obj2 xb ha fa (by intro q; cases q) fvb
    have NO := more_fresh FG (more_fresh FG (more_fresh FG (more_fresh FG N9 hdx fdx) ha fa) ha2 fap) hb2 fbp
    simp only [List.cons_append, List.nil_append] at NO
    have w1y := opt_handed p1
    have w2y := opt_handed p2
    have w3y := opt_handed p3
    have w4y := tail_handed xp
    have w5y := tail_handed xb
    clear F8 N8 FG N9 xp xb ha hdx ha2 hb2 fa fdx fvp fvb fap fbp kk tt5 e3 e4
    k_steps
    rename Fr _ _ _ _ => FK
    rename News _ _ _ _ => NK
    have NA := NK (a2, instObj 457 dx2) (by k_mem)
    have ND := NK (dx2, dictOf [en w "major" r1 y1, en w "minor" r2 y2, en w "patch" r3 y3, en w "prerelease" r4 yp, en w "build" r5 yb, en w "partial" r6 (.bool true), en w "_cmp_precedence_key" r7 (.ref e1), en w "_sort_precedence_key" r8 (.ref e2)] kx2) (by k_mem)
    have KV : Known (gnd s.heap) _ [(a2, instObj 457 dx2), (dx2, dictOf [en w "major" r1 y1, en w "minor" r2 y2, en w "patch" r3 y3, en w "prerelease" r4 yp, en w "build" r5 yb, en w "partial" r6 (.bool true), en w "_cmp_precedence_key" r7 (.ref e1), en w "_sort_precedence_key" r8 (.ref e2)] kx2)] := fun p hp => by
      rcases List.mem_cons.mp hp with rfl | hp
      · exact ⟨NA.1, NA.2.2⟩
      · rw [List.mem_singleton.mp hp]; exact ⟨ND.1, ND.2.2⟩
    refine kso_call (f := 389) (ox := instObj 457 dx2) (od := some _) (by rw [PyProof.Rows.units_in1, PyProof.Rows.units_in1, units_deeper]; decide) (X.keeps FK.keep) ⟨NA.1, rfl, rfl, ND.1⟩ (by k_is) (by k_is) ?_
    have hx2 : (tx x0).length ≤ 200 := by rw [tx_len]; exact Nat.le_trans gr.1 (by decide)
    have hne : (openL 3 (tx x0)).1 ≠ [] := fun q => by have := gr.2.2.1; unfold badC at this; rw [q] at this; simp at this
    have hnr : ∀ D ∈ D2 :: rs2, NumZ D := fun D hD => coNums_ok (b := true) hx2 D (by rw [hco2]; exact hD)
    have hrl : rs2.length ≤ 2 := by have := (coNums_len (b := true) (x := tx x0)).1; rw [hco2, List.length_cons] at this; omega
    have hlr := openL_rest_len 3 (tx x0) hne
    have hlc := cutL_len ((openL 3 (tx x0)).2.map hy)
    rw [List.length_map] at hlc
    have hpl2 : ∀ p, optL (preL (tx x0)) = some p → p.length ≤ 250 := fun p' e => by
      unfold optL at e; split at e
      · cases e
      · cases e; unfold preL; omega
    have hql2 : ∀ p, optL (bldL (tx x0)) = some p → p.length ≤ 250 := fun p' e => by
      unfold optL at e; split at e
      · cases e
      · cases e; unfold bldL; rw [List.length_map]; omega
    have HA := (NK (ap2, oa2) (by k_mem)).1
    have HB := (NK (bp2, ob2) (by k_mem)).1
    refine callK (str_spec (B := gnd s.heap) C FK.keep (by simp only [depth_deeper]; decide) (by exact rfl) (by rw [PyProof.Rows.units_in1, PyProof.Rows.units_in1, units_deeper]; decide) KV p1 p2 p3 hnr hrl (gap2 _ HA) (gbp2 _ HB) epp2 ebb2 (optL_tl (pre_tail _)) (optL_tl (bld_tail _)) hpl2 hql2) ?_
    rintro v h' tk ⟨z, tz, rfl, ez⟩ kk
    have hzy : (z != y0) = false := by
      rw [ne_str, ez, gr.2.2.2]
      unfold toldL; rw [hco2]; simp
    have FL := FK.keeps kk
    have NL := News.keeps NK kk
    clear FK NK kk HA HB NA ND KV
    show wpAny _ _ _ _ _ _
    k_steps
    rename Fr _ _ _ _ => FM
    rename News _ _ _ _ => NM
    refine pick_list (items := #[.str x0 t0, .str y0 u0]) ⟨_, FM.keep _ _ hr, rfl, 0, rfl⟩ (by decide) (by show 1 < 2; decide) (by show 2 ≤ 1000; decide) fun v _ hv => ?_
    obtain rfl : .str y0 u0 = v := Option.some.inj hv
    clear hv
    k_steps
    rename Fr _ _ _ _ => FM2
    rename News _ _ _ _ => NM2
    exact ⟨⟨_, _, gs7, q7, q8, _, rfl, gg7, FM2, fun p hp => NM2 p (SubL.mem (l := [(335, tabObj q7), (392, tabObj q8)]) (by k_subL) p hp), tr7, tr8, rfl⟩, ⟨oI, (NM2 (I, oI) (by k_mem)).1, cI, dI⟩, typed_in (C.keeps FM2.keep).K⟩
  case done =>
    clear hTy hlt
    rintro s' ⟨h2, tk2, gs2, q3, q4, m2, rfl, gg2, F4, N4, tr3, tr4, ms2⟩
    show wpAny _ _ _ _ _ _
    clear F3 N3 u1 u2
    have F5 := explL F4 [(_, _)] (by simp only [List.forall_mem_cons]; exact ⟨ms2, List.forall_mem_nil _⟩)
    clear F4 ms2
    k_steps
    refine For_ready ?_
    k_steps
    walk1
    k_steps
    rename Fr _ _ _ _ => F6
    rename News _ _ _ _ => N6
    rename IntsAre _ (List.take 4 ns) => hI4
    obtain ⟨DD, eDD⟩ := nm N6
    subst eDD
    rename List Value => ws
    have hDl := Heap.lt_size (N6 _ (.head _)).1
    have hDL := (N6 _ (.head _)).2.1
    have hDg := (N6 _ (.head _)).2.2
    have hz0 := fun b => new_at (b := b) F6 (N6 (335, tabObj q3) (by k_mem)).1 (N6 (392, tabObj q4) (by k_mem)).1
    have hDD : DD ≠ 335 ∧ DD ≠ 392 := ⟨ne_tab (N6 _ (.head _)).1 (N6 (335, tabObj q3) (by k_mem)).1 (by intro q; cases q), ne_tab (N6 _ (.head _)).1 (N6 (392, tabObj q4) (by k_mem)).1 (by intro q; cases q)⟩
    refine enum_ready (l := DD) (items := ws.toArray) rfl ⟨_, (N6 _ (.head _)).1, rfl, 0, rfl⟩ (LawInv s L l) (fun i s₁ h' tk hI k => law_move (wr := [_, _]) (fun b hb => ?mv) i s₁ h' tk hI fun b o hb e => k b o (fun q => hb (by rw [q]; exact .head _)) (fun q => hb (by rw [q]; exact .tail _ (.head _))) e) ?step ?done ?h0
    case mv =>
      rcases List.mem_cons.mp hb with rfl | hb
      · exact hz0 _ (Nat.le_succ _)
      · rw [List.mem_singleton.mp hb]; exact hz0 _ (Nat.le_refl _)
    case h0 =>
      intro h' k
      exact ⟨h', _, gs2, q3, q4, _, rfl, gg2, F6.keeps k, fun p hp => ⟨k _ _ (N6 p (.tail _ hp)).1, (N6 p (.tail _ hp)).2⟩, tr3, tr4, rfl⟩
    case done =>
      rintro s' ⟨h2, tk2, gs2, q3, q4, m2, rfl, gg2, F4, N4, tr3, tr4, ms2⟩
      show wpAny _ _ _ _ _ _
      clear F6 N6
      k_steps
      rename Fr _ _ _ _ => FE
      rename News _ _ _ _ => NE
      exact ⟨_, _, gs2, rfl, rfl, gg2, FE.keep, ⟨q3, (NE _ (.head _)).1, tr3⟩, ⟨q4, (NE _ (.tail _ (.head _))).1, tr4⟩⟩
    case step =>
      rintro i T t xi s₁ hxi hT ⟨h2, tk2, gs3, q5, q6, m2, rfl, gg3, F4, N4, tr5, tr6, ms2⟩ ⟨⟨old, he⟩, ⟨oit, hoit, cit, dit⟩, ⟨oD, hoD, cD, dD⟩⟩
      obtain ⟨n, tn, rfl, hn4, hi4⟩ := ints_at hI4 (i := i) (by simpa using hxi)
      have hi5 : i < 4 := Nat.lt_of_lt_of_le hi4 (by rw [List.length_take]; exact Nat.min_le_left ..)
      have hlay := hn n (List.mem_of_mem_take hn4)
      have N5 := news_cons he (hz0 _ (Nat.le_succ _)).1 (hz0 _ (Nat.le_succ _)).2.1 (news_cons hoit (hz0 _ (Nat.le_refl _)).1 (hz0 _ (Nat.le_refl _)).2.1 (news_cons hoD hDg hDL N4))
      have F5 := explL F4 [(_, _)] (by simp only [List.forall_mem_cons]; exact ⟨ms2, List.forall_mem_nil _⟩)
      clear F6 N6 F4 N4 ms2
      dsimp only at hT
      k_steps
      rename Fr _ _ _ _ => F6
      rename News _ _ _ _ => N6
      refine callK (text_spec (s := { heap := _, gens := gs3, drawn := s.drawn, toks := _, os := s.os }) (C.keeps F6.keep) (by simp only [depth_deeper]; decide) (by exact rfl) hlay ⟨by omega, by omega⟩) ?_
      rintro v h4 tk4 ⟨x, tt, rfl, hx, hpl⟩ kk
      have F7 := F6.keeps kk
      have N7 := News.keeps N6 kk
      clear F6 N6 kk he hoit hoD
      k_steps
      have FG := fr_gndT F7 n1 n2 gnd_none1 gnd_none2
      refine callRK (fs := [L]) (case_spec (base := gnd s.heap) (outer := [_]) (s := { heap := _, gens := gs3, drawn := s.drawn, toks := _, os := s.os }) ⟨C.keeps FG.keep, (below_caller (gnd s.heap)).push FG rfl, ⟨q5, (N7 (335, tabObj q5) (by k_mem)).1, tr5⟩, ⟨q6, (N7 (392, tabObj q6) (by k_mem)).1, tr6⟩, gg3⟩ C (fr_dicts F7 n1 n2) (by simp only [depth_deeper]; decide) (by exact rfl) (by rw [units_deeper]; decide) (Nat.le_trans hx (by decide)) hpl) ?_
      rintro v h8 tk8 gs8 g8 rfl gg8 T8 k8 ⟨q7, e7, tr7⟩ ⟨q8, e8, tr8⟩
      obtain ⟨F8, kk⟩ := law_turn F7 gnd_none1 gnd_none2 n1 n2 T8 k8
      have N8 := news_turn (news := [_, _, _]) N7 (by
        simp only [List.forall_mem_cons]
        exact ⟨(by intro q; cases q), (by rw [cit]; intro q; cases q), (by rw [cD]; intro q; cases q), List.forall_mem_nil _⟩) kk e7 e8
      simp only [List.cons_append, List.nil_append] at N8
      clear F7 N7 FG T8 k8 kk e7 e8
      k_steps
      rename Fr _ _ _ _ => F9
      rename News _ _ _ _ => N9
      exact ⟨⟨_, _, gs8, q7, q8, _, rfl, gg8, F9, fun p hp => N9 p (.tail _ (.tail _ (.tail _ hp))), tr7, tr8, rfl⟩, ⟨_, (N9 _ (.head _)).1⟩, ⟨oit, (N9 _ (.tail _ (.head _))).1, cit, dit⟩, ⟨oD, (N9 _ (.tail _ (.tail _ (.head _)))).1, cD, dD⟩⟩
end Mine
end
section
set_option maxRecDepth 100000
namespace Mine
open PySem PySem.W PyProof.Rows PySem.Calls
theorem oldK_of {P : Params} {h h' : Heap} (X : (hd.heap_39 P).In h) (k : ∀ b o, (gnd h).get? b = some o → h'.get? b = some o) (t1 : TabP h' 335) (t2 : TabP h' 392) : OldK h h' := by
  have grown : ∀ c p, CodeHd h c p → h.get? p = some (tabObj #[]) → TabP h' p → ∀ o, h.get? p = some o → asItWas h h' p o := fun c p hc hp t o e => by
    obtain ⟨ps, e2, _⟩ := t
    rw [e] at hp
    obtain rfl := Option.some.inj hp
    exact .inr (.inl ⟨(hc.tab e).isCodeTable, rfl, #[], ps, rfl, by rw [Array.empty_append]; exact e2⟩)
  refine ⟨fun b o e => ?_, fun b o e => ?_⟩
  · by_cases h1 : b = 335
    · subst h1; exact grown 339 335 (codeC_at (KK_in X)) (tabC_at X) t1 o e
    · by_cases h2 : b = 392
      · subst h2; exact grown 396 392 (codeB_at (KK_in X)) (tabB_at X) t2 o e
      · exact .inl (k b o (le_gnd e h1 h2))
  · by_cases h1 : b = 335
    · subst h1; obtain ⟨ps, e2, _⟩ := t1; exact ⟨_, e2⟩
    · by_cases h2 : b = 392
      · subst h2; obtain ⟨ps, e2, _⟩ := t2; exact ⟨_, e2⟩
      · exact ⟨o, k b o (le_gnd e h1 h2)⟩
theorem tabs_at {P : Params} {h : Heap} (X : (hd.heap_39 P).In h) : TabsAt [(339, 335), (396, 392)] h := fun q hq => by
  rcases List.mem_cons.mp hq with rfl | hq
  · exact ⟨codeC_at (KK_in X), tabC_at X⟩
  · rw [List.mem_singleton.mp hq]; exact ⟨codeB_at (KK_in X), tabB_at X⟩
theorem layable_mem {ns : List Int} (h : PyData.layable0 (.list (ns.map PyData.int)) = true) : ∀ n ∈ ns, PyData.layable0 (.int n) = true := fun n hn => by
  have hw := PyData.weight_item_of_list h (List.mem_map_of_mem hn)
  unfold PyData.layable0
  rw [decide_eq_true hw, decide_eq_true (show PyData.depth (.int n) ≤ 64 by simp only [PyData.depth]; exact Nat.zero_le _)]
  simp only [PyData.canLay0, Bool.and_true]
end Mine
set_option maxRecDepth 100000 in
set_option maxHeartbeats 8000000 in
theorem PySem.Challenge.cw_bt5017_01_holds : PySem.Challenge.rw_bt5017_01.Holds := by
  refine Mine.hd ?_
  open Mine PySem PySem.W PyProof.Rows PySem.Calls in
  (k_fill
   intro w s₀ s₁ mg mb G Y fa o pm cd doc dV kV ho hd' hcd hD hmg hg args vals as hpre hlay hrd hwl hlo
   have KX := kIn_of Y
   refine Ground.open G ?_
   intro T B D TE TW
   wrow_args hpre hlay hrd hwl hlo
   all_goals x_fa T KX hmg
   rename IntsAre _ _ => hI
   rename Heap.IsList _ _ _ => hLs
   have tabs := tabs_at KX
   refine wpAny_call (codeAny_mono (law_spec (s := s₁) ⟨ghost_K tabs (KK_in KX) (KK_noTabs _), ghost_top tabs T⟩ ⟨#[], tabC_at KX, trivial⟩ ⟨#[], tabB_at KX, trivial⟩ (.of_eq hg) (ghost_list tabs hLs) hI (layable_mem (by assumption)) (by omega)) ?_)
   rintro r s' ⟨h', tk, gs, rfl, rfl, gg, k, t1, t2⟩
   exact ⟨.inl ⟨_, _, [], rfl, fun _ => rfl, ReadsW.bool true, by first | rfl | wrow_post, fun _ => ⟨List.nodup_nil, fun _ hm => nomatch hm⟩⟩, oldK_of KX k t1 t2, rfl, gg⟩)
end
